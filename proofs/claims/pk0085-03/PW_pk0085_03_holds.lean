import PyProof.Rows.All
import Wide.All
import OpenK.AllK
import Wide.FinOn
import PySem.Challenge.RW_pk0085_03
set_option Elab.async false

section
open PySem PySem.W PyProof.Rows
set_option Elab.async false
namespace Mine

/-- plain data -/
inductive D where
  | none
  | bool (b : Bool)
  | int (i : Int)
  | str (s : Str)
  | list (l : List D)
  | tuple (l : List D)
  | dict (ks vs : List D)
  | range (a b c : Int)

noncomputable abbrev PE := Str → Option D

noncomputable def upd (m : PE) (x : Str) (d : D) : PE := fun y => if y = x then some d else m y

noncomputable def lim : Nat := 1048576

noncomputable def cutL {α : Type} (l : List α) (lo hi : Option Int) (st : Int) : List α :=
  (Builtin.Str.strSliceIndices lo hi st l.length).filterMap (l[·]?)

noncomputable def chars (s : Str) : List D := s.cps.toList.map fun c => .str ⟨#[c]⟩

noncomputable def rangeLen (a b c : Int) : Nat := (Builtin.Range.rangeSize a b c).toNat
noncomputable def rOk (a b c : Int) : Bool := decide (a.natAbs ≤ lim ∧ b.natAbs ≤ lim ∧ 0 < c ∧ c ≤ lim)
noncomputable def rangeL (a b c : Int) : List Int := (List.range (rangeLen a b c)).map fun (i : Nat) => a + (i : Int) * c

noncomputable def itemsD : D → Option (List D)
  | .list l => some l
  | .tuple l => some l
  | .str s => some (chars s)
  | .range a b c => some ((rangeL a b c).map .int)
  | .dict ks _ => some ks
  | _ => none

noncomputable def truth : D → Option Bool
  | .none => some false
  | .bool b => some b
  | .int i => some (i != 0)
  | .str s => some (s.length != 0)
  | .list l => some (l.length != 0)
  | _ => none

noncomputable def eqS : D → D → Option Bool
  | .int a, .int b => some (a == b)
  | .str a, .str b => some (a == b)
  | .bool a, .bool b => some (a == b)
  | _, _ => none

noncomputable def eqLs (f : D → D → Option Bool) : List D → List D → Option Bool
  | [], [] => some true
  | x :: xs, y :: ys => match f x y, eqLs f xs ys with
    | some p, some q => some (p && q)
    | _, _ => none
  | _, _ => none

noncomputable def eqN : Nat → D → D → Option Bool
  | 0, a, b => eqS a b
  | n + 1, a, b => match a, b with
    | .list a, .list b => if a.length = b.length then eqLs (eqN n) a b else some false
    | a, b => eqS a b

noncomputable def eqD (a b : D) : Option Bool := eqN 4 a b

noncomputable def lookD : List D → List D → D → Option (Option D)
  | [], [], _ => some none
  | k :: ks, v :: vs, x => match eqS k x with
    | some true => some (some v)
    | some false => lookD ks vs x
    | none => none
  | _, _, _ => none

noncomputable def putD : List D → List D → D → D → Option (List D × List D)
  | [], [], k, v => some ([k], [v])
  | k' :: ks, v' :: vs, k, v => match eqS k' k with
    | some true => some (k' :: ks, v :: vs)
    | some false => (putD ks vs k v).map fun p => (k' :: p.1, v' :: p.2)
    | none => none
  | _, _, _, _ => none

noncomputable def inL (x : D) : List D → Option Bool
  | [] => some false
  | y :: ys => match eqS y x, inL x ys with
    | some p, some q => some (p || q)
    | _, _ => none

noncomputable def strsOf : List D → Option (List Str)
  | [] => some []
  | .str s :: r => (strsOf r).map (s :: ·)
  | _ => none
noncomputable def intsOf : List D → Option (List Int)
  | [] => some []
  | .int i :: r => (intsOf r).map (i :: ·)
  | _ => none

noncomputable def allStr : List D → Bool
  | [] => true
  | .str _ :: r => allStr r
  | _ => false
noncomputable def allInt : List D → Bool
  | [] => true
  | .int _ :: r => allInt r
  | _ => false

noncomputable def constD : Const → Option D
  | .none => some .none
  | .bool b => some (.bool b)
  | .int i => some (.int i)
  | .str s => if s.length ≤ lim then some (.str s) else none
  | _ => none

noncomputable def smallI (a : Int) : Bool := decide (a.natAbs < 2 ^ 62)

noncomputable def mkS (s : Str) : Option D := if s.length ≤ lim then some (.str s) else none
noncomputable def mkL (l : List D) : Option D := if l.length ≤ lim then some (.list l) else none
noncomputable def mkT (l : List D) : Option D := if l.length ≤ lim then some (.tuple l) else none

noncomputable def binD : Operator → D → D → Option D
  | .Add, .int a, .int b => some (.int (a + b))
  | .Add, .str a, .str b => mkS (a ++ b)
  | .Add, .list a, .list b => mkL (a ++ b)
  | .Sub, .int a, .int b => some (.int (a - b))
  | .Mult, .int a, .int b => if (smallI a || smallI b) = true then some (.int (a * b)) else none
  | .Mult, .str a, .int n => if 0 ≤ n ∧ n ≤ 1000 ∧ a.length ≤ 1000 then some (.str ⟨(List.replicate n.toNat a.cps.toList).flatten.toArray⟩) else none
  | .Mult, .list l, .int n => if 0 ≤ n ∧ n ≤ 1000 ∧ l.length ≤ 1000 then some (.list (List.replicate n.toNat l).flatten) else none
  | .FloorDiv, .int a, .int b => if b ≠ 0 ∧ b.natAbs < 1073741824 then some (.int (a.fdiv b)) else none
  | .Mod, .int a, .int b => if b ≠ 0 then some (.int (a.fmod b)) else none
  | .Pow, .int a, .int n => if 0 ≤ n ∧ n ≤ 100 ∧ smallI a = true then some (.int (a ^ n.toNat)) else none
  | _, _, _ => none

noncomputable def unD : UnaryOp → D → Option D
  | .Not, d => (truth d).map fun b => .bool !b
  | .USub, .int a => some (.int (-a))
  | _, _ => none

noncomputable def isD : D → D → Option Bool
  | .bool a, .bool b => some (a == b)
  | _, _ => none

noncomputable def keyKind : D → Bool
  | .str _ | .int _ => true
  | _ => false

noncomputable def cmpD : CmpOp → D → D → Option D
  | .Eq, a, b => (eqD a b).map .bool
  | .NotEq, a, b => (eqD a b).map fun t => .bool !t
  | .Lt, .int a, .int b => some (.bool (decide (a < b)))
  | .LtE, .int a, .int b => some (.bool (decide (a ≤ b)))
  | .Gt, .int a, .int b => some (.bool (decide (a > b)))
  | .GtE, .int a, .int b => some (.bool (decide (a ≥ b)))
  | .Is, a, b => (isD a b).map .bool
  | .In, x, .tuple l => (inL x l).map .bool
  | .In, x, .dict ks vs => if keyKind x then (lookD ks vs x).map fun r => .bool r.isSome else none
  | _, _, _ => none

noncomputable def minL (a : Int) : List Int → Int
  | [] => a
  | b :: r => minL (min a b) r
noncomputable def minI : List Int → Option Int
  | [] => none
  | a :: r => some (minL a r)

noncomputable def lenD : D → Option Nat
  | .list l => some l.length
  | .tuple l => some l.length
  | .str s => some s.length
  | _ => none

noncomputable def joinS : List Str → Str
  | [] => Str.empty
  | x :: r => x ++ joinS r

noncomputable def splitD (x y : Str) : Option (List Str) :=
  if (decide (x.length < y.length) || decide (Builtin.Str.strKind x < Builtin.Str.strKind y)) = false ∧ (y.length == 0) = false ∧ (Builtin.Str.occurrences x y 0 x.length (x.length + 1)).isEmpty = false then
    some (Builtin.Str.partsBetween x (Builtin.Str.occurrences x y 0 x.length (x.length + 1)) y.length)
  else none
noncomputable def firstAt : List Int → Int → Option Nat
  | [], _ => none
  | x :: r, i => if x = i then some 0 else (firstAt r i).map (· + 1)

noncomputable def typeD (t : Str) : D → Option Bool
  | .int _ => if t = Str.ofString "int" then some true else if t = Str.ofString "bool" then some false else none
  | .bool _ => if t = Str.ofString "int" then some true else if t = Str.ofString "bool" then some true else none
  | _ => none

noncomputable def partD : Option D → Option (Option Int)
  | none => some none
  | some .none => some none
  | some (.int i) => some (some i)
  | _ => none

noncomputable def idxD (l : Nat) (i : Int) : Option Nat :=
  let j := if i < 0 then i + l else i
  if 0 ≤ j ∧ j < l then some j.toNat else none

noncomputable def itemD : D → D → Option D
  | .list l, .int i => (idxD l.length i).bind (l[·]?)
  | .tuple l, .int i => (idxD l.length i).bind (l[·]?)
  | .str s, .int i => (idxD s.length i).bind fun j => (s.cps[j]?).map fun c => .str ⟨#[c]⟩
  | .dict ks vs, k => if keyKind k then (lookD ks vs k).bind id else none
  | _, _ => none

noncomputable def sliceD (o : D) (lo hi : Option Int) (st : Int) : Option D :=
  if 0 < st then match o with
    | .list l => some (.list (cutL l lo hi st))
    | .str s => if st = 1 then some (.str ⟨(cutL s.cps.toList lo hi st).toArray⟩) else none
    | _ => none
  else none

/-- how a statement's own value is taken -/
inductive Hint where
  | plain | relaxed | own | own2 | freeze
  deriving DecidableEq

/-- a sequence's items with their places -/
noncomputable def enumL (l : List D) : List D := l.zipIdx.map fun p => .tuple [.int p.2, p.1]

structure Cx where
  gl : List (Str × D)
  fn : List (Str × (List D → Option D))
  hint : Nat → Hint

noncomputable def kd (sc : Scope) (x : Str) : Option NameKind := sc.names.lookup x

noncomputable def nameD (C : Cx) (sc : Scope) (m : PE) (x : Str) : Option D :=
  match kd sc x with
  | some .local | some .cell | some .free => m x
  | some .globalImplicit => C.gl.lookup x
  | _ => none

noncomputable def relabelS (scope sc : Scope) : Scope :=
  { scope with names := scope.names.map fun (n, k) => if (k == .free && sc.kind == .function && kd sc n == some .cell) then (n, .cell) else (n, k) }

/-- what a comprehension's block sees of the names around it -/
noncomputable def inner (scope : Scope) (m : PE) : PE := fun x => match kd scope x with
  | some .free => m x
  | _ => none

noncomputable def isCellish (k : Option NameKind) : Bool := match k with
  | some .cell | some .free => true
  | _ => false

noncomputable def nmOk (sc : Scope) : Bool := (kd sc (Str.ofString "__debug__")).isNone && (kd sc (Str.ofString "__classdict__")).isNone

/-- the scope of a comprehension is as we have a rule for it -/
noncomputable def scopeOk (scope sc : Scope) : Bool :=
  scope.kind == .function && sc.kind == .function && nmOk scope &&
  scope.names.all (fun p => (kd scope p.1 == some p.2) && (p.2 != .free || isCellish (kd sc p.1)))

noncomputable def bindNs : List Expr → List D → PE → Option PE
  | [], [], m => some m
  | .Name x _ :: ts, d :: ds, m => bindNs ts ds (upd m x d)
  | _, _, _ => none

noncomputable def bindT0 : Expr → D → PE → Option PE
  | .Name x _, d, m => some (upd m x d)
  | .Tuple ts _ _, .tuple ds, m => bindNs ts ds m
  | _, _, _ => none
/-- a tuple goes to a tuple of names, nothing else does -/
noncomputable def tgtOk : Expr → D → Bool
  | .Name _ _, .tuple _ => false
  | .Name _ _, _ => true
  | .Tuple .., .tuple _ => true
  | _, _ => false
noncomputable def bindT (t : Expr) (d : D) (m : PE) : Option PE := if tgtOk t d = true then bindT0 t d m else none
theorem bindT_eq {t : Expr} {d : D} {m m' : PE} (e : bindT t d m = some m') : tgtOk t d = true ∧ bindT0 t d m = some m' := by
  unfold bindT at e
  split at e
  · exact ⟨by assumption, e⟩
  · cases e

noncomputable def targetOk (sc : Scope) : Expr → Bool
  | .Name x _ => kd sc x == some .local || kd sc x == some .cell
  | .Tuple es _ _ => es.all fun e => match e with
    | .Name x _ => kd sc x == some .local || kd sc x == some .cell
    | _ => false
  | _ => false

noncomputable def freshT (m : PE) : Expr → Bool
  | .Name x _ => (m x).isNone
  | .Tuple es _ _ => es.all fun e => match e with
    | .Name x _ => (m x).isNone
    | _ => false
  | _ => false

noncomputable def builtinFree (C : Cx) (sc : Scope) (f : Str) : Bool := kd sc f == some .globalImplicit && (C.gl.lookup f).isNone && (C.fn.lookup f).isNone

noncomputable def mapMD {α β : Type} (f : α → Option β) : List α → Option (List β)
  | [] => some []
  | x :: r => match f x with
    | none => none
    | some y => match mapMD f r with
      | none => none
      | some ys => some (y :: ys)

noncomputable def boolG (op : BoolOp) (f : Expr → Option D) : List Expr → Option D
  | [] => none
  | [e] => f e
  | e :: r => match f e with
    | none => none
    | some d => match truth d with
      | none => none
      | some t => match op, t with
        | .And, false | .Or, true => some d
        | _, _ => boolG op f r

noncomputable def testsG (f : Expr → Option D) : List Expr → Option Bool
  | [] => some true
  | e :: r => match (f e).bind truth with
    | some true => testsG f r
    | some false => some false
    | none => none

/-- the clauses of a comprehension behind its first iterable: each turn's items -/
noncomputable def gensG (ev : PE → Expr → Option D) (it : PE → Expr → Option (List D)) (sc : Scope) (k : PE → Option (List D)) :
    List Comprehension → PE → List D → Option (List (List D))
  | [], _, _ => none
  | ⟨t, _, ifs, a⟩ :: rest, m, l =>
    if a = 0 ∧ targetOk sc t = true ∧ freshT m t = true then
      mapMD (fun d => match bindT t d m with
        | none => none
        | some m' => match testsG (ev m') ifs with
          | none => none
          | some false => some []
          | some true => match rest with
            | [] => k m'
            | g :: gs => match it m' g.iter with
              | none => none
              | some l' => (gensG ev it sc k (g :: gs) m' l').map List.flatten) l
    else none

noncomputable def dictG : List D → List D → List (D × D) → Option (List D × List D)
  | ks, vs, [] => some (ks, vs)
  | ks, vs, p :: r => match putD ks vs p.1 p.2 with
    | none => none
    | some (ks', vs') => dictG ks' vs' r

noncomputable def isStrD : D → Bool
  | .str _ => true
  | _ => false
noncomputable def isIntD : D → Bool
  | .int _ => true
  | _ => false
noncomputable def emitG (chk : D → Bool) (ev : PE → Expr → Option D) (k v : Expr) (m : PE) : Option (List D) :=
  match ev m k, ev m v with
  | some a, some b => if chk a then some [a, b] else none
  | _, _ => none
noncomputable def pairUp : List D → Option (List (D × D))
  | [] => some []
  | a :: b :: r => (pairUp r).map ((a, b) :: ·)
  | _ => none
noncomputable def dictOfG (r : Option (List (List D))) : Option D :=
  match r with
  | none => none
  | some rs => match pairUp rs.flatten with
    | none => none
    | some ps => if ps.length ≤ 1000 then (dictG [] [] ps).map fun p => .dict p.1 p.2 else none

noncomputable def keysOk (ks : List D) : Bool := allStr ks || allInt ks

/- peels: an expression's parts, where it is of the kind -/
noncomputable def asName : Expr → Option Str
  | .Name x _ => some x
  | _ => none
noncomputable def asTup : Expr → Option (List Expr)
  | .Tuple es _ _ => some es
  | _ => none
noncomputable def asSub : Expr → Option (Expr × Expr)
  | .Subscript o i _ => some (o, i)
  | _ => none
noncomputable def asAttr : Expr → Option (Expr × Str × Pos)
  | .Attribute o f p => some (o, f, p)
  | _ => none
noncomputable def asSlc : Expr → Option (Option Expr × Option Expr × Option Expr)
  | .Slice lo hi st _ => some (lo, hi, st)
  | _ => none
noncomputable def asCall : Expr → Option (Expr × List Expr × List Keyword × Pos)
  | .Call f as ks p => some (f, as, ks, p)
  | _ => none
noncomputable def asInt : D → Option Int
  | .int i => some i
  | _ => none
noncomputable def asList : D → Option (List D)
  | .list l => some l
  | _ => none
noncomputable def asStr : D → Option Str
  | .str x => some x
  | _ => none
noncomputable def asTupD : D → Option (List D)
  | .tuple l => some l
  | _ => none
/-- a list of one -/
noncomputable def sole {α : Type} : List α → Option α
  | [x] => some x
  | _ => none
noncomputable def duo {α : Type} : List α → Option (α × α)
  | [x, y] => some (x, y)
  | _ => none

noncomputable def asRange : D → Option (Int × Int × Int)
  | .range a b c => some (a, b, c)
  | _ => none
/-- the built-ins -/
noncomputable def bLen (args : List D) : Option D := (sole args).bind fun d => (lenD d).map fun n => .int n
noncomputable def rangeArgs : List Int → Option (Int × Int × Int)
  | [b] => some (0, b, 1)
  | [a, b] => some (a, b, 1)
  | [a, b, c] => some (a, b, c)
  | _ => none
noncomputable def bRange (args : List D) : Option D := (intsOf args).bind fun l => (rangeArgs l).bind fun q => if rOk q.1 q.2.1 q.2.2 = true then some (.range q.1 q.2.1 q.2.2) else none
noncomputable def bList (args : List D) : Option D := (sole args).bind fun d => (asRange d).bind fun q => if rangeLen q.1 q.2.1 q.2.2 ≤ lim then some (.list ((rangeL q.1 q.2.1 q.2.2).map .int)) else none
noncomputable def bMin (args : List D) : Option D := if args.length = 1 then (sole args).bind fun d => (asList d).bind fun l => (intsOf l).bind fun xs => (minI xs).map .int
  else (duo args).bind fun q => (asInt q.1).bind fun a => (asInt q.2).bind fun b => some (.int (min a b))
noncomputable def bSum (args : List D) : Option D := (sole args).bind fun d => (asList d).bind fun l => (intsOf l).map fun xs => .int xs.sum
noncomputable def bTab : List (Str × Value × (List D → Option D)) :=
  (Str.ofString "len", .builtin "len", bLen) :: (Str.ofString "range", .type "range", bRange) :: (Str.ofString "list", .type "list", bList) :: (Str.ofString "min", .builtin "min", bMin) :: (Str.ofString "sum", .builtin "sum", bSum) ::
  []
noncomputable def callB (f : Str) (args : List D) : Option D := (bTab.lookup f).bind fun q => q.2 args

/-- the methods -/
structure Mth where
  ty : String
  id : String
  F : D → List D → Option D
noncomputable def mJoin (o : D) (args : List D) : Option D := (asStr o).bind fun sep => (sole args).bind fun d => (asList d).bind fun l => if sep.length = 0 then (strsOf l).bind fun xs => mkS (joinS xs) else none
noncomputable def mLower (o : D) (args : List D) : Option D := (asStr o).bind fun s => if args.isEmpty = true ∧ s.length ≤ 1000 then some (.str (Txt.lower s)) else none
noncomputable def mSplit (o : D) (args : List D) : Option D := (asStr o).bind fun s => (sole args).bind fun d => (asStr d).bind fun sep => if s.length ≤ lim then (splitD s sep).bind fun ps => if ps.length ≤ lim ∧ (ps.all fun p => decide (p.length ≤ lim)) = true then some (.list (ps.map .str)) else none else none
noncomputable def mIndex (o : D) (args : List D) : Option D := (asList o).bind fun l => (sole args).bind fun d => (asInt d).bind fun i => (intsOf l).bind fun xs => (firstAt xs i).map fun (j : Nat) => .int j
noncomputable def mTab : List (Str × Mth) :=
  (Str.ofString "join", ⟨"str", "str.join", mJoin⟩) :: (Str.ofString "lower", ⟨"str", "str.lower", mLower⟩) ::
  (Str.ofString "split", ⟨"str", "str.split", mSplit⟩) :: (Str.ofString "index", ⟨"list", "list.index", mIndex⟩) ::
  []
noncomputable def callM (o : D) (f : Str) (args : List D) : Option D := (mTab.lookup f).bind fun q => q.F o args

/-- an optional part of a slice -/
noncomputable def partE (f : Expr → Option D) : Option Expr → Option (Option D)
  | none => some none
  | some e => (f e).map some

noncomputable def baseOk (e : Expr) : Bool := match asCall e with
  | some (_, as, _, _) => !as.isEmpty
  | none => true

/-- a call of a name -/
noncomputable def callN (C : Cx) (sc : Scope) (f : Expr → Option D) (x : Str) (args : List Expr) : Option D :=
  if kd sc x = some .globalImplicit then match C.fn.lookup x with
    | some F => (mapMD f args).bind F
    | none => if (C.gl.lookup x).isNone = true then
        if x = Str.ofString "isinstance" then (duo args).bind fun q => (asName q.2).bind fun t => if builtinFree C sc t = true then (f q.1).bind fun d => (typeD t d).map .bool else none
        else (mapMD f args).bind (callB x)
      else none
  else none
/-- a call of a method -/
noncomputable def callA (f : Expr → Option D) (o : Expr) (m : Str) (apos : Pos) (args : List Expr) (pos : Pos) : Option D :=
  if (baseOk o && apos.endLine == pos.line && decide (args.length < 29)) = true then (f o).bind fun d => (mapMD f args).bind fun ds => callM d m ds else none
noncomputable def subE (f : Expr → Option D) (v i : Expr) : Option D := match asSlc i with
  | some (lo, hi, st) => (f v).bind fun d => (partE f lo).bind fun a => (partE f hi).bind fun b => (partE f st).bind fun c => (partD a).bind fun x => (partD b).bind fun y => (partD c).bind fun z => sliceD d x y (z.getD 1)
  | none => (f v).bind fun d => (f i).bind fun j => itemD d j
noncomputable def dictE (f : Expr → Option D) (ks : List (Option Expr)) (vs : List Expr) : Option D :=
  (mapMD (fun k => k.bind f) ks).bind fun dk => (mapMD f vs).bind fun dv => if dk.length = dv.length ∧ keysOk dk = true ∧ dk.length ≤ 15 then (dictG [] [] (dk.zip dv)).map fun p => .dict p.1 p.2 else none
noncomputable def cmpE (f : Expr → Option D) (l : Expr) (ops : List CmpOp) (rs : List Expr) : Option D :=
  (sole ops).bind fun op => (sole rs).bind fun r => (f l).bind fun a => (f r).bind fun b => cmpD op a b

mutual
noncomputable def ev (C : Cx) : Nat → Scope → PE → Expr → Option D
  | 0, _, _, _ => none
  | n + 1, sc, m, e => match e with
    | .Constant c _ _ => constD c
    | .Name x _ => nameD C sc m x
    | .BoolOp op vs _ => boolG op (ev C n sc m) vs
    | .BinOp l op r _ => (ev C n sc m l).bind fun a => (ev C n sc m r).bind fun b => binD op a b
    | .UnaryOp op x _ => (ev C n sc m x).bind (unD op)
    | .IfExp t b o _ => ((ev C n sc m t).bind truth).bind fun c => if c = true then ev C n sc m b else ev C n sc m o
    | .Compare l ops rs _ => cmpE (ev C n sc m) l ops rs
    | .List es _ => (mapMD (ev C n sc m) es).bind mkL
    | .Tuple es _ _ => (mapMD (ev C n sc m) es).bind mkT
    | .Dict ks vs _ => dictE (ev C n sc m) ks vs
    | .ListComp elt gens scope _ => gens.head?.bind fun g => if scopeOk scope sc = true then (itE C n sc m g.iter).bind fun l =>
        (gensG (ev C n (relabelS scope sc)) (itE C n (relabelS scope sc)) scope (fun m' => (ev C n (relabelS scope sc) m' elt).map fun d => [d]) gens (inner scope m) l).bind fun rs => mkL rs.flatten
      else none
    | .DictComp k v gens scope _ => (sole gens).bind fun g => if scopeOk scope sc = true then (itE C n sc m g.iter).bind fun l =>
        match dictOfG (gensG (ev C n (relabelS scope sc)) (itE C n (relabelS scope sc)) scope (emitG isStrD (ev C n (relabelS scope sc)) k v) [g] (inner scope m) l) with
          | some d => some d
          | none => dictOfG (gensG (ev C n (relabelS scope sc)) (itE C n (relabelS scope sc)) scope (emitG isIntD (ev C n (relabelS scope sc)) k v) [g] (inner scope m) l)
      else none
    | .Call f args kws pos => if kws.isEmpty = true then match asName f with
        | some x => callN C sc (ev C n sc m) x args
        | none => (asAttr f).bind fun q => callA (ev C n sc m) q.1 q.2.1 q.2.2 args pos
      else none
    | .Subscript v i _ => subE (ev C n sc m) v i
    | _ => none
/-- the items that a for or a comprehension takes -/
noncomputable def itE (C : Cx) : Nat → Scope → PE → Expr → Option (List D)
  | 0, _, _, _ => none
  | n + 1, sc, m, e => match e with
    | .Call f args kws p =>
      if asName f = some (Str.ofString "enumerate") ∧ builtinFree C sc (Str.ofString "enumerate") = true then (if kws.isEmpty = true then (sole args).bind fun a => ((ev C n sc m a).bind asTupD).bind fun l => some (enumL l) else none)
      else
      (ev C n sc m (.Call f args kws p)).bind itemsD
    | .Set .. => none
    | e => (ev C n sc m e).bind itemsD
end

/-- a frame's names: those that nothing changes under way, and the lists of its own -/
inductive OD where
  | one (l : List D)
  | two (l : List (List D))

noncomputable def asOne : OD → Option (List D)
  | .one l => some l
  | _ => none
noncomputable def asTwo : OD → Option (List (List D))
  | .two l => some l
  | _ => none
noncomputable def OD.toD : OD → D
  | .one l => .list l
  | .two l => .list (l.map .list)

structure St where
  m : PE
  o : Str → Option OD

noncomputable def St.all (st : St) : PE := fun x => match st.m x with
  | some d => some d
  | none => (st.o x).map OD.toD

noncomputable def St.set (st : St) (x : Str) (d : D) : St := ⟨upd st.m x d, fun y => if y = x then none else st.o y⟩
noncomputable def St.own (st : St) (x : Str) (l : OD) : St := ⟨fun y => if y = x then none else st.m y, fun y => if y = x then some l else st.o y⟩
noncomputable def St.frozen (st : St) : St := ⟨st.all, fun _ => none⟩

noncomputable def scalar : D → Bool
  | .none | .bool _ | .int _ | .str _ => true
  | _ => false
noncomputable def flat (l : List D) : Bool := l.all scalar

noncomputable def asLst : Expr → Option (List Expr)
  | .List es _ => some es
  | _ => none
/-- a list comprehension's element -/
noncomputable def asLC : Expr → Option (Expr × List Comprehension)
  | .ListComp elt gs _ _ => some (elt, gs)
  | _ => none
noncomputable def isLst (e : Expr) : Bool := (asLst e).isSome
noncomputable def isFresh (e : Expr) : Bool := isLst e || (asLC e).isSome || match asCall e with
  | some (f, as, ks, _) => (asName f == some (Str.ofString "list")) && as.length == 1 && ks.isEmpty
  | none => false

noncomputable def storeOk (sc : Scope) (x : Str) : Bool := kd sc x == some .local || kd sc x == some .cell

/-- a value to be kept, by the line's hint -/
noncomputable def evK (C : Cx) (n : Nat) (sc : Scope) (st : St) (h : Hint) (e : Expr) : Option D :=
  match h with
  | .relaxed => (ev C n sc st.all e).bind fun d => if scalar d then some d else none
  | _ => ev C n sc st.m e

/-- a list of one's own: fresh, its items kept -/
noncomputable def evF (C : Cx) (n : Nat) (sc : Scope) (st : St) (e : Expr) : Option (List D) :=
  if isFresh e then
    match ev C n sc st.all e with
    | some (.list l) => if flat l then some l else match ev C n sc st.m e with
      | some (.list l') => some l'
      | _ => none
    | _ => none
  else none

noncomputable def isFresh2 (e : Expr) : Bool := match asLst e with
  | some es => match sole es with
    | some x => isLst x
    | none => false
  | none => match asLC e with
    | some (elt, gs) => isLst elt && gs.length == 1
    | none => false
noncomputable def flats : List D → Option (List (List D))
  | [] => some []
  | .list l :: r => if flat l then (flats r).map (l :: ·) else none
  | _ => none
/-- a list of lists of one's own, all fresh -/
noncomputable def evF2 (C : Cx) (n : Nat) (sc : Scope) (st : St) (e : Expr) : Option (List (List D)) :=
  if isFresh2 e then
    match ev C n sc st.all e with
    | some (.list l) => flats l
    | _ => none
  else none

noncomputable def setD (l : List D) (i : Int) (d : D) : Option (List D) := (idxD l.length i).map fun j => l.set j d

noncomputable def namesT : List Expr → List Str
  | [] => []
  | .Name x _ :: ts => x :: namesT ts
  | _ :: ts => namesT ts

noncomputable def bindSs : List Expr → List D → St → Option St
  | [], [], st => some st
  | .Name x _ :: ts, d :: ds, st => bindSs ts ds (st.set x d)
  | _, _, _ => none

noncomputable def bindS0 : Expr → D → St → Option St
  | .Name x _, d, st => some (st.set x d)
  | .Tuple ts _ _, .tuple ds, st => bindSs ts ds st
  | _, _, _ => none
noncomputable def bindS (t : Expr) (d : D) (st : St) : Option St := if tgtOk t d = true then bindS0 t d st else none

noncomputable def isStarE : Expr → Bool
  | .Starred .. => true
  | _ => false
/-- whether a tuple's stores are taken in reverse; none: not covered -/
noncomputable def swapQ (ts : List Expr) (value : Expr) (sc : Scope) : Option (Option (List Str)) :=
  match value with
  | .Tuple vs _ _ =>
    if (!(ts.length == 2 || ts.length == 3) || vs.length != ts.length) = true then some none
    else if vs.any isStarE = true then some none
    else
      let names := ts.filterMap fun
        | .Name id pos => if (kd sc id == some .local && pos.line == (ts.head?.map (·.pos.line)).getD 0) = true then some id else none
        | _ => none
      if (names.length != ts.length || names.eraseDups.length != names.length) = true then some none
      else if vs.all (foldedForSure 8) = true then some none
      else if vs.all (constantsAlone 8) = true then none
      else some (some names)
  | _ => some none

/-- one target -/
noncomputable def exAT (C : Cx) (n : Nat) (sc : Scope) (st : St) (hn : Hint) (ts : List Expr) (k : Nat) (p : Pos) (e : Expr) : Option (Option D × St) :=
  if targetOk sc (.Tuple ts k p) = true ∧ (namesT ts).Nodup ∧ (swapQ ts e sc).isSome = true then
      (evK C n sc st .plain e).bind fun d => (bindS (.Tuple ts k p) d st).map fun st' => (none, st')
      else none
noncomputable def exAS2 (C : Cx) (n : Nat) (sc : Scope) (st : St) (hn : Hint) (e : Expr) (x : Str) (l : List D) (j : Int) : Option (Option D × St) := (evK C n sc st hn e).bind fun d => (setD l j d).map fun l' => (none, st.own x (.one l'))
noncomputable def exAS1 (C : Cx) (n : Nat) (sc : Scope) (st : St) (hn : Hint) (i e : Expr) (x : Str) : Option (Option D × St) := ((st.o x).bind asOne).bind fun l => ((ev C n sc st.all i).bind asInt).bind (exAS2 C n sc st hn e x l)
noncomputable def exA (C : Cx) (n : Nat) (sc : Scope) (st : St) (hn : Hint) (t e : Expr) : Option (Option D × St) :=
  match t with
  | .Name x _ => if storeOk sc x = true then
      (if hn = .own then (evF C n sc st e).map fun l => (none, st.own x (.one l))
       else if hn = .own2 then (evF2 C n sc st e).map fun l => (none, st.own x (.two l))
       else (evK C n sc st hn e).map fun d => (none, st.set x d)) else none
  | .Tuple ts k p => exAT C n sc st hn ts k p e
  | .Subscript o i _ => (asName o).bind (exAS1 C n sc st hn i e)
  | _ => none
/-- two names -/
noncomputable def exT (C : Cx) (n : Nat) (sc : Scope) (st : St) (t t' e : Expr) : Option (Option D × St) :=
  (asName t).bind fun x => (asName t').bind fun y => if storeOk sc x = true ∧ storeOk sc y = true ∧ x ≠ y then (evK C n sc st .relaxed e).map fun d => (none, (st.set x d).set y d) else none
noncomputable def exU (C : Cx) (n : Nat) (sc : Scope) (st : St) (t : Expr) (op : Operator) (e : Expr) : Option (Option D × St) :=
  (asName t).bind fun x => if storeOk sc x = true then ((nameD C sc st.m x).bind asInt).bind fun a => ((ev C n sc st.m e).bind asInt).bind fun b =>
    if op = .Add then some (none, st.set x (.int (a + b))) else if op = .Sub then some (none, st.set x (.int (a - b))) else none
  else none
/-- a method of an own list -/
noncomputable def exN (C : Cx) (n : Nat) (sc : Scope) (st : St) (hn : Hint) (x m : Str) (e : Expr) : Option (Option D × St) :=
  (st.o x).bind fun od => match od with
    | .one l => if m = Str.ofString "append" then (evK C n sc st hn e).bind fun d => if l.length < lim then some (none, st.own x (.one (l ++ [d]))) else none
      else if m = Str.ofString "extend" then ((evK C n sc st hn e).bind asList).bind fun l' => if l.length + l'.length < lim then some (none, st.own x (.one (l ++ l'))) else none
      else none
    | .two l => if m = Str.ofString "append" then (evF C n sc st e).bind fun d => if l.length < lim ∧ flat d = true then some (none, st.own x (.two (l ++ [d]))) else none
      else none
/-- a method of a row of an own list -/
noncomputable def exR2 (st : St) (x : Str) (l : List (List D)) (j : Int) (d : D) : Option (Option D × St) := (idxD l.length j).bind fun k => (l[k]?).bind fun l' => if l'.length < lim ∧ scalar d = true then some (none, st.own x (.two (l.set k (l' ++ [d])))) else none
noncomputable def exR1 (C : Cx) (n : Nat) (sc : Scope) (st : St) (hn : Hint) (x m : Str) (e : Expr) (l : List (List D)) (j : Int) : Option (Option D × St) := (evK C n sc st hn e).bind fun d => if m = Str.ofString "append" then exR2 st x l j d else none
noncomputable def exR (C : Cx) (n : Nat) (sc : Scope) (st : St) (hn : Hint) (x : Str) (i : Expr) (m : Str) (e : Expr) : Option (Option D × St) :=
  ((st.o x).bind asTwo).bind fun l => ((ev C n sc st.all i).bind asInt).bind (exR1 C n sc st hn x m e l)
noncomputable def exE2 (C : Cx) (n : Nat) (sc : Scope) (st : St) (hn : Hint) (a : Expr × Str × Pos) (e : Expr) : Option (Option D × St) := match asName a.1 with
    | some x => exN C n sc st hn x a.2.1 e
    | none => (asSub a.1).bind fun b => (asName b.1).bind fun x => exR C n sc st hn x b.2 a.2.1 e
noncomputable def exE1 (C : Cx) (n : Nat) (sc : Scope) (st : St) (hn : Hint) (q : Expr × List Expr × List Keyword × Pos) (a : Expr × Str × Pos) : Option (Option D × St) := (sole q.2.1).bind fun e' => if (q.2.2.1.isEmpty && a.2.2.endLine == q.2.2.2.line) = true then exE2 C n sc st hn a e' else none
noncomputable def exE (C : Cx) (n : Nat) (sc : Scope) (st : St) (hn : Hint) (e : Expr) : Option (Option D × St) := (asCall e).bind fun q => (asAttr q.1).bind (exE1 C n sc st hn q)
noncomputable def exS (C : Cx) (n : Nat) (sc : Scope) (st₀ : St) (hn : Hint) (ts : List Expr) (e : Expr) : Option (Option D × St) := match ts with
  | [] => none
  | [t] => exA C n sc (if hn = .freeze then st₀.frozen else st₀) hn t e
  | t :: t' :: r => if r.isEmpty = true then exT C n sc st₀ t t' e else none

mutual
noncomputable def ex (C : Cx) : Nat → Scope → St → Stmt → Option (Option D × St)
  | 0, _, _, _ => none
  | n + 1, sc, st₀, s => match s with
    | .Assign ts e pos => exS C n sc st₀ (C.hint pos.line) ts e
    | .AugAssign t op e _ => exU C n sc st₀ t op e
    | .If t b o _ => ((ev C n sc st₀.all t).bind truth).bind fun c => if c = true then exs C n sc st₀ b else exs C n sc st₀ o
    | .While t b els _ => if els.isEmpty = true then exw C n sc st₀ t b else none
    | .For t i b els pos => if (els.isEmpty && targetOk sc t) = true then
        (itE C n sc (if C.hint pos.line = .freeze then st₀.frozen else st₀).m i).bind fun l => exf C n sc (if C.hint pos.line = .freeze then st₀.frozen else st₀) t b l
      else none
    | .Return oe _ => oe.bind fun e => (ev C n sc st₀.all e).map fun d => (some d, st₀)
    | .Expr e pos => exE C n sc st₀ (C.hint pos.line) e
    | _ => none
noncomputable def exs (C : Cx) : Nat → Scope → St → List Stmt → Option (Option D × St)
  | 0, _, _, _ => none
  | n + 1, sc, st, l => match l with
    | [] => some (none, st)
    | s :: r => (ex C n sc st s).bind fun p => match p.1 with
      | none => exs C n sc p.2 r
      | some d => some (some d, p.2)
noncomputable def exf (C : Cx) : Nat → Scope → St → Expr → List Stmt → List D → Option (Option D × St)
  | 0, _, _, _, _, _ => none
  | n + 1, sc, st, t, b, l => match l with
    | [] => some (none, st)
    | d :: r => (bindS t d st).bind fun st' => (exs C n sc st' b).bind fun p => match p.1 with
      | none => exf C n sc p.2 t b r
      | some d => some (some d, p.2)
noncomputable def exw (C : Cx) : Nat → Scope → St → Expr → List Stmt → Option (Option D × St)
  | 0, _, _, _, _ => none
  | n + 1, sc, st, t, b => ((ev C n sc st.all t).bind truth).bind fun c => if c = true then (exs C n sc st b).bind fun p => match p.1 with
      | none => exw C n sc p.2 t b
      | some d => some (some d, p.2)
    else some (none, st)
end

noncomputable def bindP : List Str → List D → Option PE
  | [], [] => some fun _ => none
  | x :: xs, d :: ds => (bindP xs ds).map fun m => upd m x d
  | _, _ => none

/-- a call of a def: its body run upon its arguments -/
noncomputable def callF (C : Cx) (n : Nat) (params : List Str) (sc : Scope) (body : List Stmt) (args : List D) : Option D :=
  match bindP params args with
  | none => none
  | some m => match exs C n sc ⟨m, fun _ => none⟩ body with
    | some (some d, _) => some d
    | some (none, _) => some .none
    | none => none

end Mine

end

section
open PySem PySem.W PyProof.Rows
set_option Elab.async false
namespace Mine

theorem nns {α : Type} {r : α} {P : Prop} (h : (none : Option α) = some r) : P := nomatch h
theorem asName_inv {e : Expr} {x : Str} (h : asName e = some x) : ∃ p, e = .Name x p := by
  cases e <;> first | exact nns h | (cases h; exact ⟨_, rfl⟩)
theorem asTup_inv {e : Expr} {x : List Expr} (h : asTup e = some x) : ∃ k p, e = .Tuple x k p := by
  cases e <;> first | exact nns h | (cases h; exact ⟨_, _, rfl⟩)
theorem asSub_inv {e : Expr} {x : Expr × Expr} (h : asSub e = some x) : ∃ p, e = .Subscript x.1 x.2 p := by
  cases e <;> first | exact nns h | (cases h; exact ⟨_, rfl⟩)
theorem asAttr_inv {e : Expr} {x : Expr × Str × Pos} (h : asAttr e = some x) : e = .Attribute x.1 x.2.1 x.2.2 := by
  cases e <;> first | exact nns h | (cases h; rfl)
theorem asSlc_inv {e : Expr} {x : Option Expr × Option Expr × Option Expr} (h : asSlc e = some x) : ∃ p, e = .Slice x.1 x.2.1 x.2.2 p := by
  cases e <;> first | exact nns h | (cases h; exact ⟨_, rfl⟩)
theorem asCall_inv {e : Expr} {x : Expr × List Expr × List Keyword × Pos} (h : asCall e = some x) : e = .Call x.1 x.2.1 x.2.2.1 x.2.2.2 := by
  cases e <;> first | exact nns h | (cases h; rfl)
theorem asInt_inv {d : D} {x : Int} (h : asInt d = some x) : d = .int x := by
  cases d <;> first | exact nns h | (cases h; rfl)
theorem asStr_inv {d : D} {x : Str} (h : asStr d = some x) : d = .str x := by
  cases d <;> first | exact nns h | (cases h; rfl)
theorem asList_inv {d : D} {x : List D} (h : asList d = some x) : d = .list x := by
  cases d <;> first | exact nns h | (cases h; rfl)
theorem asTupD_inv {d : D} {x : List D} (h : asTupD d = some x) : d = .tuple x := by
  cases d <;> first | exact nns h | (cases h; rfl)
theorem asRange_inv {d : D} {x : Int × Int × Int} (h : asRange d = some x) : d = .range x.1 x.2.1 x.2.2 := by
  cases d <;> first | exact nns h | (cases h; rfl)
theorem asOne_inv {d : OD} {x : List D} (h : asOne d = some x) : d = .one x := by
  cases d <;> first | exact nns h | (cases h; rfl)
theorem asTwo_inv {d : OD} {x : List (List D)} (h : asTwo d = some x) : d = .two x := by
  cases d <;> first | exact nns h | (cases h; rfl)
theorem sole_inv {α : Type} {l : List α} {x : α} (h : sole l = some x) : l = [x] := by
  cases l with
  | nil => exact nns h
  | cons y l => cases l with
    | nil => exact congrArg (fun a => [a]) (Option.some.inj h)
    | cons => exact nns h
theorem duo_inv {α : Type} {l : List α} {x : α × α} (h : duo l = some x) : l = [x.1, x.2] := by
  cases l with
  | nil => exact nns h
  | cons y l => cases l with
    | nil => exact nns h
    | cons z l => cases l with
      | nil => rw [← Option.some.inj h]
      | cons => exact nns h
theorem bnd {α β : Type} {o : Option α} {f : α → Option β} {r : β} (h : o.bind f = some r) : ∃ a, o = some a ∧ f a = some r := Option.bind_eq_some_iff.mp h
theorem mpd {α β : Type} {o : Option α} {f : α → β} {r : β} (h : o.map f = some r) : ∃ a, o = some a ∧ f a = r := Option.map_eq_some_iff.mp h
theorem ifs {p : Prop} [Decidable p] {α : Type} {x : Option α} {r : α} (h : (if p then x else none) = some r) : p ∧ x = some r := by
  by_cases hp : p
  · rw [if_pos hp] at h; exact ⟨hp, h⟩
  · rw [if_neg hp] at h; exact nns h
theorem ifp {p : Prop} [Decidable p] {α : Type} {x y : Option α} {r : α} (h : (if p then x else y) = some r) : (p ∧ x = some r) ∨ (¬ p ∧ y = some r) := by
  by_cases hp : p
  · rw [if_pos hp] at h; exact .inl ⟨hp, h⟩
  · rw [if_neg hp] at h; exact .inr ⟨hp, h⟩
theorem bndE {α β : Type} {o : Option α} {f : α → Option β} {r : β} {P : Prop} (h : o.bind f = some r) (k : ∀ a, o = some a → f a = some r → P) : P := let ⟨a, h1, h2⟩ := bnd h; k a h1 h2
theorem mpdE {α β : Type} {o : Option α} {f : α → β} {r : β} {P : Prop} (h : o.map f = some r) (k : ∀ a, o = some a → f a = r → P) : P := let ⟨a, h1, h2⟩ := mpd h; k a h1 h2
theorem ifsE {p : Prop} [Decidable p] {α : Type} {x : Option α} {r : α} {P : Prop} (h : (if p then x else none) = some r) (k : p → x = some r → P) : P := let ⟨h1, h2⟩ := ifs h; k h1 h2
theorem emp {α : Type} {l : List α} (h : l.isEmpty = true) : l = [] := List.isEmpty_iff.mp h

/-- the keys of a dict as the model keeps them -/
noncomputable def HashOk (w : World) (ks : List D) (es : List DictEntry) : Prop :=
  (∃ xs : List Str, ks = xs.map .str ∧ xs.Nodup ∧ ∀ e ∈ es, ∃ x t, e.key = .str x t ∧ e.hash = hashStr w x) ∨
  (∃ xs : List Int, ks = xs.map .int ∧ xs.Nodup ∧ ∀ e ∈ es, ∃ i t, e.key = .int i t ∧ e.hash = hashInt i)

theorem allStr_map (xs : List Str) : allStr (xs.map .str) = true := by
  induction xs with
  | nil => rfl
  | cons x r ih => exact ih
theorem allInt_map (xs : List Int) : allInt (xs.map .int) = true := by
  induction xs with
  | nil => rfl
  | cons x r ih => exact ih

inductive SeqV (I : Addr → Array Value → Nat → Prop) (B : Addr → Prop) (R : List Value → Prop) (len : Nat) (v : Value) : Prop where
  | mk (a : Addr) (vs : List Value) (n : Nat) : v = .ref a → ¬ B a → I a vs.toArray n → R vs → len ≤ lim → SeqV I B R len v
inductive DictV (w : World) (h : Heap) (B : Addr → Prop) (K V : List Value → Prop) (ks : List D) (v : Value) : Prop where
  | mk (a : Addr) (es : Array DictEntry) (n : Nat) : v = .ref a → ¬ B a → a ≠ sysModules → h.get? a = some ⟨.type "dict", none, .dict es n, #[]⟩ → K (es.toList.map (·.key)) → V (es.toList.map (·.val)) → HashOk w ks es.toList → DictV w h B K V ks v
inductive RangeV (h : Heap) (B : Addr → Prop) (x y z : Int) (v : Value) : Prop where
  | mk (a : Addr) (t u q : Tok) : v = .ref a → ¬ B a → h.get? a = some { cls := .type "range", dict := none, data := .fields #[.int x t, .int y u, .int z q], slots := #[] } → rOk x y z = true → RangeV h B x y z v
mutual
/-- value v bears datum d in heap h, by objects outside B alone -/
noncomputable def RV (w : World) (h : Heap) (B : Addr → Prop) : D → Value → Prop
  | .none, v => v = .none
  | .bool b, v => v = .bool b
  | .int i, v => ∃ t, v = .int i t
  | .str s, v => ∃ t, v = .str s t ∧ s.length ≤ lim
  | .list l, v => SeqV (IsL h) B (RVs w h B l) l.length v
  | .tuple l, v => SeqV (IsT h) B (RVs w h B l) l.length v
  | .dict ks ds, v => DictV w h B (RVs w h B ks) (RVs w h B ds) ks v
  | .range x y z, v => RangeV h B x y z v
noncomputable def RVs (w : World) (h : Heap) (B : Addr → Prop) : List D → List Value → Prop
  | [], vs => vs = []
  | d :: ds, vs => ∃ v vs', vs = v :: vs' ∧ RV w h B d v ∧ RVs w h B ds vs'
end

section
variable {w : World} {h h' : Heap} {B B' : Addr → Prop}

theorem RVs.nil_inv {vs : List Value} (r : RVs w h B [] vs) : vs = [] := by simpa only [RVs] using r
theorem RV.int_inv {i : Int} {v : Value} (r : RV w h B (.int i) v) : ∃ t, v = .int i t := by simpa only [RV] using r
theorem RV.str_inv {x : Str} {v : Value} (r : RV w h B (.str x) v) : ∃ t, v = .str x t ∧ x.length ≤ lim := by simpa only [RV] using r
theorem RV.list_inv {l : List D} {v : Value} (r : RV w h B (.list l) v) : SeqV (IsL h) B (RVs w h B l) l.length v := by simpa only [RV] using r
theorem RV.tuple_inv {l : List D} {v : Value} (r : RV w h B (.tuple l) v) : SeqV (IsT h) B (RVs w h B l) l.length v := by simpa only [RV] using r
theorem RV.range_inv {x y z : Int} {v : Value} (r : RV w h B (.range x y z) v) : RangeV h B x y z v := by simpa only [RV] using r
theorem RV.mk_list {l : List D} {v : Value} (r : SeqV (IsL h) B (RVs w h B l) l.length v) : RV w h B (.list l) v := by simpa only [RV] using r
theorem RV.mk_range {x y z : Int} {v : Value} (r : RangeV h B x y z v) : RV w h B (.range x y z) v := by simpa only [RV] using r
mutual
theorem RV.step (hk : ∀ b o, ¬ B b → h.get? b = some o → h'.get? b = some o ∧ ¬ B' b) : ∀ (d : D) (v : Value), RV w h B d v → RV w h' B' d v
  | .none, v, r => by simpa only [RV] using r
  | .bool b, v, r => by simpa only [RV] using r
  | .int i, v, r => by simpa only [RV] using r
  | .str s, v, r => by simpa only [RV] using r
  | .list l, v, r => by
    simp only [RV] at r ⊢
    obtain ⟨a, vs, n, rfl, nb, ho, rs, hl⟩ := r
    exact ⟨a, vs, n, rfl, (hk a _ nb ho).2, (hk a _ nb ho).1, RVs.step hk l vs rs, hl⟩
  | .tuple l, v, r => by
    simp only [RV] at r ⊢
    obtain ⟨a, vs, n, rfl, nb, ho, rs, hl⟩ := r
    exact ⟨a, vs, n, rfl, (hk a _ nb ho).2, (hk a _ nb ho).1, RVs.step hk l vs rs, hl⟩
  | .dict ks ds, v, r => by
    simp only [RV] at r ⊢
    obtain ⟨a, es, n, rfl, nb, hs, ho, r1, r2, r3⟩ := r
    exact ⟨a, es, n, rfl, (hk a _ nb ho).2, hs, (hk a _ nb ho).1, RVs.step hk ks _ r1, RVs.step hk ds _ r2, r3⟩
  | .range x y z, v, r => by
    simp only [RV] at r ⊢
    obtain ⟨a, t, u, q, rfl, nb, ho, hr⟩ := r
    exact ⟨a, t, u, q, rfl, (hk a _ nb ho).2, (hk a _ nb ho).1, hr⟩
theorem RVs.step (hk : ∀ b o, ¬ B b → h.get? b = some o → h'.get? b = some o ∧ ¬ B' b) : ∀ (l : List D) (vs : List Value), RVs w h B l vs → RVs w h' B' l vs
  | [], vs, r => by simpa only [RVs] using r
  | d :: ds, vs, r => by
    simp only [RVs] at r ⊢
    obtain ⟨v, vs', rfl, r1, r2⟩ := r
    exact ⟨v, vs', rfl, RV.step hk d v r1, RVs.step hk ds vs' r2⟩
end

theorem RV.keep {d : D} {v : Value} (r : RV w h B d v) (hk : ∀ b o, h.get? b = some o → h'.get? b = some o) : RV w h' B d v :=
  RV.step (fun b o nb e => ⟨hk b o e, nb⟩) d v r
theorem RVs.keep {d : List D} {v : List Value} (r : RVs w h B d v) (hk : ∀ b o, h.get? b = some o → h'.get? b = some o) : RVs w h' B d v :=
  RVs.step (fun b o nb e => ⟨hk b o e, nb⟩) d v r
/-- fewer bans -/
theorem RV.less {d : D} {v : Value} (r : RV w h B d v) (hb : ∀ b, B' b → B b) : RV w h B' d v :=
  RV.step (fun b _ nb e => ⟨e, fun q => nb (hb b q)⟩) d v r
theorem RVs.less {d : List D} {v : List Value} (r : RVs w h B d v) (hb : ∀ b, B' b → B b) : RVs w h B' d v :=
  RVs.step (fun b _ nb e => ⟨e, fun q => nb (hb b q)⟩) d v r

theorem RVs.length {l : List D} : ∀ {vs : List Value}, RVs w h B l vs → vs.length = l.length := by
  induction l with
  | nil => intro vs r; obtain rfl := r.nil_inv; rfl
  | cons d ds ih => intro vs r; simp only [RVs] at r; obtain ⟨v, vs', rfl, _, r2⟩ := r; simp [ih r2]
theorem RVs.get {l : List D} : ∀ {vs : List Value}, RVs w h B l vs → ∀ (i : Nat) (d : D), l[i]? = some d → ∃ v, vs[i]? = some v ∧ RV w h B d v := by
  induction l with
  | nil => intro vs r i d e; simp at e
  | cons d ds ih =>
    intro vs r i d' e
    simp only [RVs] at r; obtain ⟨v, vs', rfl, r1, r2⟩ := r
    cases i with
    | zero => simp at e; subst e; exact ⟨v, rfl, r1⟩
    | succ i => simp at e; simpa using ih r2 i d' e
theorem RVs.get' {l : List D} {vs : List Value} (r : RVs w h B l vs) (i : Nat) (v : Value) (e : vs[i]? = some v) : ∃ d, l[i]? = some d ∧ RV w h B d v := by
  have hl := r.length
  have hi : i < l.length := by rw [← hl]; exact (List.getElem?_eq_some_iff.mp e).1
  obtain ⟨v', e', rv⟩ := r.get i l[i] (List.getElem?_eq_getElem hi)
  rw [e] at e'; cases e'
  exact ⟨_, List.getElem?_eq_getElem hi, rv⟩
theorem RVs.append {l l' : List D} : ∀ {vs vs' : List Value}, RVs w h B l vs → RVs w h B l' vs' → RVs w h B (l ++ l') (vs ++ vs') := by
  induction l with
  | nil => intro vs vs' r r'; obtain rfl := r.nil_inv; simpa using r'
  | cons d ds ih =>
    intro vs vs' r r'
    simp only [RVs] at r; obtain ⟨v, ws, rfl, r1, r2⟩ := r
    simp only [List.cons_append, RVs]
    exact ⟨v, _, rfl, r1, ih r2 r'⟩
theorem RVs.one {d : D} {v : Value} (r : RV w h B d v) : RVs w h B [d] [v] := by
  simp only [RVs]; exact ⟨v, [], rfl, r, rfl⟩
theorem RVs.cons {d : D} {v : Value} {ds : List D} {vs : List Value} (r : RV w h B d v) (rs : RVs w h B ds vs) : RVs w h B (d :: ds) (v :: vs) := by
  simp only [RVs]; exact ⟨v, vs, rfl, r, rs⟩
theorem RVs.nil : RVs w h B [] [] := by simp only [RVs]
theorem RVs.uncons {d : D} {ds : List D} {vs : List Value} (r : RVs w h B (d :: ds) vs) : ∃ v vs', vs = v :: vs' ∧ RV w h B d v ∧ RVs w h B ds vs' := by
  simpa only [RVs] using r
theorem RVs.single {d : D} {vs : List Value} (r : RVs w h B [d] vs) : ∃ v, vs = [v] ∧ RV w h B d v := by
  obtain ⟨v, vs', rfl, r1, r2⟩ := r.uncons
  exact ⟨v, r2.nil_inv ▸ rfl, r1⟩
theorem RVs.double {d d' : D} {vs : List Value} (r : RVs w h B [d, d'] vs) : ∃ v v', vs = [v, v'] ∧ RV w h B d v ∧ RV w h B d' v' := by
  obtain ⟨v, vs', rfl, r1, r2⟩ := r.uncons
  obtain ⟨v', rfl, r3⟩ := r2.single
  exact ⟨v, v', rfl, r1, r3⟩
theorem RVs.ofGet {l : List D} : ∀ {vs : List Value}, vs.length = l.length → (∀ (i : Nat) (d : D) (v : Value), l[i]? = some d → vs[i]? = some v → RV w h B d v) → RVs w h B l vs := by
  induction l with
  | nil => intro vs hl _; simp at hl; subst hl; exact .nil
  | cons d ds ih =>
    intro vs hl hr
    cases vs with
    | nil => simp at hl
    | cons v vs =>
      refine .cons (hr 0 d v rfl rfl) (ih (by simpa using hl) fun i d' v' e e' => hr (i + 1) d' v' (by simpa using e) (by simpa using e'))
theorem RV.scalarAny {d : D} {v : Value} (r : RV w h B d v) (hs : scalar d = true) : RV w h' B' d v := by
  cases d <;> simp only [scalar, Bool.false_eq_true] at hs <;> simpa only [RV] using r
theorem RVs.flatAny {l : List D} : ∀ {vs : List Value}, RVs w h B l vs → flat l = true → RVs w h' B' l vs := by
  induction l with
  | nil => intro vs r _; simpa only [RVs] using r
  | cons d ds ih =>
    intro vs r hf
    simp only [flat, List.all_cons, Bool.and_eq_true] at hf
    obtain ⟨v, vs', rfl, r1, r2⟩ := r.uncons
    exact .cons (r1.scalarAny hf.1) (ih r2 hf.2)
end

/-- t ends, keeps all that stood, and P holds of its value -/
noncomputable def Yields (prog : Program) (w : World) (A : Around) {α : Type} (t : Sem α) (s : Shared) (P : α → Heap → Prop) : Prop :=
  wpAny (model prog w) A t (fun v s' => Keeps s s' ∧ P v s'.heap) (fun _ _ => False) s

theorem kp_refl (s : Shared) : Keeps s s := ⟨s.heap, s.toks, rfl, fun _ _ e => e⟩
theorem kp_trans {s s' s'' : Shared} (a : Keeps s s') (b : Keeps s' s'') : Keeps s s'' := by
  obtain ⟨h1, t1, rfl, k1⟩ := a
  obtain ⟨h2, t2, rfl, k2⟩ := b
  exact ⟨h2, t2, rfl, fun x o e => k2 x o (k1 x o e)⟩
theorem kp_heap {s s' : Shared} (a : Keeps s s') : ∀ b o, s.heap.get? b = some o → s'.heap.get? b = some o := by
  obtain ⟨h1, t1, rfl, k1⟩ := a
  exact k1
theorem kp_tok (s : Shared) (t : Nat) : Keeps s { s with toks := t } := ⟨s.heap, t, rfl, fun _ _ e => e⟩
theorem kp_push (s : Shared) (o : Obj) : Keeps s { s with heap := s.heap.push o } := ⟨_, s.toks, rfl, fun _ _ e => Heap.get?_push_of_some o e⟩
theorem kp_mk {s : Shared} {h' : Heap} {tk : Nat} (k : ∀ b o, s.heap.get? b = some o → h'.get? b = some o) : Keeps s { s with heap := h', toks := tk } := ⟨h', tk, rfl, k⟩

section
variable {prog : Program} {w : World} {A : Around} {α β : Type} {s : Shared}

theorem Yields.bind {t : Sem α} {f : α → Sem β} {P : α → Heap → Prop} {Q : β → Heap → Prop} (h : Yields prog w A t s P)
    (hf : ∀ v s', Keeps s s' → P v s'.heap → Yields prog w A (f v) s' Q) : Yields prog w A (t >>= f) s Q :=
  wpAny_bind (wpAny_mono h (fun v s' hp => wpAny_mono (hf v s' hp.1 hp.2) (fun _ _ q => ⟨kp_trans hp.1 q.1, q.2⟩) fun _ _ e => e) fun _ _ e => e.elim)
theorem Yields.mono {t : Sem α} {P Q : α → Heap → Prop} (h : Yields prog w A t s P) (hq : ∀ v s', Keeps s s' → P v s'.heap → Q v s'.heap) : Yields prog w A t s Q :=
  wpAny_mono h (fun v s' hp => ⟨hp.1, hq v s' hp.1 hp.2⟩) fun _ _ e => e
theorem Yields.pure {a : α} {P : α → Heap → Prop} (h : P a s.heap) : Yields prog w A (pure a) s P := wpAny_pure ⟨kp_refl s, h⟩
/-- from a yield to any end -/
theorem Yields.use {t : Sem α} {P : α → Heap → Prop} {Q : α → Shared → Prop} {E : Value → Shared → Prop} (h : Yields prog w A t s P) (hq : ∀ v s', Keeps s s' → P v s'.heap → Q v s') : wpAny (model prog w) A t Q E s :=
  wpAny_mono h (fun v s' hp => hq v s' hp.1 hp.2) fun _ _ e => e.elim
end

/-- room for calls and for the machine's own depth -/
structure AOk (A : Around) (N : Nat) : Prop where
  hd : A.handled = none
  dp : A.depth + N < recursionLimit
  un : A.units + 8 * N + 300 < cLine

theorem AOk.in1 {A : Around} {N : Nat} (a : AOk A (N + 1)) : AOk A.in1 N := ⟨a.hd, by have := a.dp; show A.depth + N < recursionLimit; omega, by have := a.un; show A.units + 1 + 8 * N + 300 < cLine; omega⟩
theorem AOk.less {A : Around} {N M : Nat} (a : AOk A N) (h : M ≤ N) : AOk A M := ⟨a.hd, by have := a.dp; omega, by have := a.un; omega⟩
theorem AOk.deeper {A : Around} {N : Nat} (a : AOk A (N + 1)) (env : Env) : AOk (A.deeper env) N := ⟨a.hd, by have := a.dp; simp only [Around.deeper]; omega, by have := a.un; simp only [Around.deeper]; omega⟩

/-- a bound name's value -/
noncomputable def Var (env : Env) (h : Heap) (x : Str) (v : Value) : Prop :=
  (env.kindOf x = some .local ∧ ∃ ml, h.Ns env.locals ml ∧ ml x = some v) ∨ ((env.kindOf x = some .cell ∨ env.kindOf x = some .free) ∧ ∃ c, env.cells.lookup x = some c ∧ h.IsCell c (some v))

theorem Var.keep {env : Env} {h h' : Heap} {x : Str} {v : Value} (a : Var env h x v) (hk : ∀ b o, h.get? b = some o → h'.get? b = some o) : Var env h' x v := by
  rcases a with ⟨k, ml, n, e⟩ | ⟨k, c, l, e⟩
  · exact .inl ⟨k, ml, n.keeps hk, e⟩
  · exact .inr ⟨k, c, l, e.keeps hk⟩

structure FE (w : World) (h₀ : Heap) (env : Env) (B : Addr → Prop) (m : PE) (h : Heap) : Prop where
  kind : env.scope.kind = .function
  gl : env.globals = mainGlobals
  bl : env.builtins = builtinsNs
  nm : nmOk env.scope = true
  base : ∀ b o, h₀.get? b = some o → h.get? b = some o
  hi : ∀ b, B b → ∃ o, h.get? b = some o
  lo : ∀ b, B b → h₀.get? b = none
  var : ∀ x d, m x = some d → ∃ v, Var env h x v ∧ RV w h B d v
  cell : ∀ x, isCellish (env.kindOf x) = true → ∃ c, env.cells.lookup x = some c
  cex : ∀ x c, env.cells.lookup x = some c → ∃ o, h.get? c = some o
/-- what a call must show of a def -/
noncomputable def SoundF (prog : Program) (w : World) (h₀ : Heap) (N : Nat) (fa : Addr) (F : List D → Option D) : Prop :=
  ∀ (A : Around) (s : Shared) (B : Addr → Prop) (args : List D) (vs : List Value) (d : D), AOk A N → (∀ b o, h₀.get? b = some o → s.heap.get? b = some o) →
    (∀ b, B b → ∃ o, s.heap.get? b = some o) → (∀ b, B b → h₀.get? b = none) → RVs w s.heap B args vs → F args = some d →
    Yields prog w A (call (.ref fa) vs) s (fun v h => RV w h B d v)

noncomputable def bnames : List Str := ["len", "range", "list", "min", "sum", "chr", "ord", "sorted", "isinstance", "int", "bool", "zip", "enumerate"]

structure GW (prog : Program) (w : World) (C : Cx) (N : Nat) (h₀ : Heap) (mg mb : Str → Option Value) : Prop where
  g : h₀.Ns mainGlobals mg
  b : h₀.Ns builtinsNs mb
  bb : ∀ x, x ≠ Str.ofString "__name__" → mb x = bootBuiltins x
  gl : ∀ x d, C.gl.lookup x = some d → ∃ v, mg x = some v ∧ RV w h₀ (fun _ => False) d v
  fn : ∀ f F, C.fn.lookup f = some F → ∃ fa fd o, mg f = some (.ref fa) ∧ h₀.get? fa = some o ∧ o.data = .func fd ∧ SoundF prog w h₀ N fa F
  miss : ∀ f ∈ bnames, mg f = none

end Mine

end

section
open PySem PySem.W PyProof.Rows
set_option Elab.async false
namespace Mine

section
variable {prog : Program} {w : World} {A : Around} {s : Shared} {B : Addr → Prop} {N : Nat}

theorem lim_line : lim ≤ sizeLine := by decide
theorem lim_le {n : Nat} (h : n ≤ lim) : n ≤ sizeLine := Nat.le_trans h lim_line

/-- a list made after s -/
inductive Fresh (w : World) (s : Shared) (B : Addr → Prop) (l : List D) (v : Value) (h : Heap) : Prop where
  | mk (a : Addr) (vs : List Value) (n : Nat) : v = .ref a → s.heap.get? a = none → IsL h a vs.toArray n → RVs w h (fun b => B b ∨ b = a) l vs → l.length ≤ lim → Fresh w s B l v h
theorem Fresh.rv {l : List D} {v : Value} {h : Heap} (f : Fresh w s B l v h) (hB : ∀ b, B b → ∃ o, s.heap.get? b = some o) : RV w h B (.list l) v := by
  obtain ⟨a, vs, n, rfl, ha, hl, r, hn⟩ := f
  simp only [RV]
  exact ⟨a, vs, n, rfl, (fun q => by obtain ⟨o, ho⟩ := hB a q; rw [ha] at ho; cases ho), hl, r.less (fun b hb => .inl hb), hn⟩
theorem get?_size (h : Heap) : h.get? h.objs.size = none := by
  cases e : h.get? h.objs.size with
  | none => rfl
  | some o => exact absurd (Heap.lt_size e) (Nat.lt_irrefl _)
theorem Fresh.back {s' : Shared} {l : List D} {v : Value} {h : Heap} (f : Fresh w s' B l v h) (k : Keeps s s') : Fresh w s B l v h := by
  obtain ⟨a, vs, n, rfl, ha, r, r', r''⟩ := f
  refine ⟨a, vs, n, rfl, ?_, r, r', r''⟩
  cases e : s.heap.get? a with
  | none => rfl
  | some o => rw [kp_heap k a o e] at ha; cases ha

theorem newList_ok {l : List D} {vs : List Value} (r : RVs w s.heap B l vs) (hn : l.length ≤ lim) : Yields prog w A (newList vs) s (Fresh w s B l) := by
  refine wpAny_newObj_type ⟨kp_push s _, _, vs, 0, rfl, get?_size _, Heap.get?_push_size _ rfl, ?_, hn⟩ ?_
  · refine RVs.step (fun b o nb e => ⟨kp_heap (kp_push s _) b o e, fun q => ?_⟩) _ _ r
    rcases q with q | q
    · exact nb q
    · subst q; exact absurd (Heap.lt_size e) (Nat.lt_irrefl _)
  show vs.toArray.size ≤ sizeLine
  rw [List.size_toArray, r.length]; exact lim_le hn
theorem newTuple_ok {l : List D} {vs : List Value} (hB : ∀ b, B b → b < s.heap.objs.size) (r : RVs w s.heap B l vs) (hn : l.length ≤ lim) : Yields prog w A (newTuple vs) s (fun v h => RV w h B (.tuple l) v) := by
  refine wpAny_newObj_type ⟨kp_push s _, ?_⟩ ?_
  · simp only [RV]
    exact ⟨_, vs, 0, rfl, fun q => Nat.lt_irrefl _ (hB _ q), Heap.get?_push_size _ rfl, r.keep (kp_heap (kp_push s _)), hn⟩
  · show vs.toArray.size ≤ sizeLine
    rw [List.size_toArray, r.length]; exact lim_le hn

theorem rv_int {i : Int} {t : Tok} {h : Heap} : RV w h B (.int i) (.int i t) := by simp only [RV]; exact ⟨t, rfl⟩
theorem rv_str {x : Str} {t : Tok} {h : Heap} (hx : x.length ≤ lim) : RV w h B (.str x) (.str x t) := by simp only [RV]; exact ⟨t, rfl, hx⟩
theorem rv_bool {b : Bool} {h : Heap} : RV w h B (.bool b) (.bool b) := by simp only [RV]
theorem bits_small {a : Int} (h : smallI a = true) : Builtin.Int.intBits a ≤ 64 := by
  have h' : a.natAbs < 2 ^ 62 := of_decide_eq_true h
  unfold Builtin.Int.intBits
  split
  · omega
  · rename_i h0
    have : a.natAbs.log2 < 62 := (Nat.log2_lt (by simpa using h0)).mpr h'
    omega

theorem rvs_flatten {l : List D} {vs : List Value} {h : Heap} (r : RVs w h B l vs) : ∀ n : Nat, RVs w h B (List.replicate n l).flatten (List.replicate n vs).flatten
  | 0 => by simpa using RVs.nil
  | n + 1 => by rw [List.replicate_succ, List.replicate_succ, List.flatten_cons, List.flatten_cons]; exact r.append (rvs_flatten r n)

theorem foldl_append_arr {α : Type} (l : List (Array α)) : ∀ a : Array α, l.foldl (fun x y => x ++ y) a = (a.toList ++ (l.map Array.toList).flatten).toArray := by
  induction l with
  | nil => intro a; simp
  | cons x r ih => intro a; rw [List.foldl_cons, ih]; simp

theorem mulS_eq (x : Str) (n : Int) (h0 : 0 ≤ n) : Txt.mul x n = ⟨(List.replicate n.toNat x.cps.toList).flatten.toArray⟩ := by
  unfold Txt.mul
  split
  · have : n.toNat = 0 := by omega
    rw [this]; rfl
  · split
    · rename_i h1 h2
      simp only [Bool.or_eq_true, beq_iff_eq] at h2
      rcases h2 with rfl | h2
      · simp
      · have hx : x.cps = #[] := Array.size_eq_zero_iff.mp h2
        obtain ⟨c⟩ := x
        simp only at hx; subst hx
        simp
    · rw [foldl_append_arr]; simp

theorem mulS_len (x : Str) (n : Int) (h0 : 0 ≤ n) (h1 : n ≤ 1000) (h2 : x.length ≤ 1000) : (Txt.mul x n).length ≤ lim := by
  rw [mulS_eq x n h0]
  show ((List.replicate n.toNat x.cps.toList).flatten.toArray).size ≤ lim
  have : x.length * n.toNat ≤ 1000 * 1000 := Nat.mul_le_mul h2 (by omega)
  have e2 : ((List.replicate n.toNat x.cps.toList).flatten.toArray).size = x.length * n.toNat := by simp [Nat.mul_comm, Str.length]
  have : (1000 * 1000 : Nat) ≤ lim := by decide
  omega

theorem binary_ok {op : Operator} {a b d : D} {va vb : Value} (hB : ∀ b, B b → b < s.heap.objs.size) (ra : RV w s.heap B a va) (rb : RV w s.heap B b vb) (e : binD op a b = some d) :
    Yields prog w A (binaryOp op va vb) s (fun v h => RV w h B d v) := by
  cases op
  case Add =>
    cases a
    case int x =>
      cases b
      case int y =>
        obtain ⟨t, rfl⟩ := ra.int_inv; obtain ⟨u, rfl⟩ := rb.int_inv; cases e
        exact add_int ⟨kp_tok s _, rv_int⟩
      all_goals exact nns e
    case str x =>
      cases b
      case str y =>
        obtain ⟨t, rfl, -⟩ := ra.str_inv; obtain ⟨u, rfl, -⟩ := rb.str_inv
        refine ifsE e fun hl e => ?_; cases e
        refine add_str (fun t' tk => ⟨kp_tok s _, rv_str hl⟩) ?_
        have : (_ ++ _ : Str).length ≤ lim := hl
        rw [Str.length_append] at this
        exact lim_le this
      all_goals exact nns e
    case list x =>
      cases b
      case list y =>
        simp only [RV] at ra rb
        obtain ⟨l1, vs1, n1, rfl, nb1, o1, r1, -⟩ := ra
        obtain ⟨l2, vs2, n2, rfl, nb2, o2, r2, -⟩ := rb
        refine ifsE e fun hl e => ?_; cases e
        refine P.add_list o1 o2 ⟨kp_push s _, ?_⟩ ?_
        · simp only [RV]
          refine ⟨_, vs1 ++ vs2, 0, rfl, fun q => Nat.lt_irrefl _ (hB _ q), ?_, (r1.append r2).keep (kp_heap (kp_push s _)), hl⟩
          show (s.heap.push _).get? _ = _
          rw [Heap.get?_push_size _ rfl]; simp
        · rw [List.size_toArray, List.size_toArray, r1.length, r2.length, ← List.length_append]; exact lim_le hl
      all_goals exact nns e
    all_goals exact nns e
  case Sub =>
    cases a
    case int x =>
      cases b
      case int y =>
        obtain ⟨t, rfl⟩ := ra.int_inv; obtain ⟨u, rfl⟩ := rb.int_inv; cases e
        exact sub_int ⟨kp_tok s _, rv_int⟩
      all_goals exact nns e
    all_goals exact nns e
  case Mult =>
    cases a
    case int x =>
      cases b
      case int y =>
        obtain ⟨t, rfl⟩ := ra.int_inv; obtain ⟨u, rfl⟩ := rb.int_inv
        refine ifsE e fun hs e => ?_; cases e
        refine P.mul_int ⟨kp_tok s _, rv_int⟩ ?_
        rcases Bool.or_eq_true_iff.mp hs with h | h
        · exact IntMulOk.of_left (bits_small h)
        · exact IntMulOk.of_right (bits_small h)
      all_goals exact nns e
    case str x =>
      cases b
      case int n =>
        obtain ⟨t, rfl, -⟩ := ra.str_inv; obtain ⟨u, rfl⟩ := rb.int_inv
        refine ifsE e fun hs e => ?_; cases e
        obtain ⟨h0, h1, h2⟩ := hs
        refine SB.mul ⟨?_, ?_, ?_⟩ fun t' k => ?_
        · simp; omega
        · intro hn _
          have : (2 ^ 63 - 1) / n ≥ 1000 := by
            apply Int.le_ediv_of_mul_le (by omega)
            have : (1000 : Int) * n ≤ 1000 * 1000 := by omega
            omega
          omega
        · intro _ _
          simp only [Builtin.Str.tooLong, decide_eq_false_iff_not]
          have : x.length * n.toNat ≤ 1000 * 1000 := Nat.mul_le_mul h2 (by omega)
          have : (1000 * 1000 : Nat) ≤ sizeLine := by decide
          omega
        · rw [mulS_eq x n h0]; exact ⟨kp_tok s _, rv_str (by rw [← mulS_eq x n h0]; exact mulS_len x n h0 h1 h2)⟩
      all_goals exact nns e
    case list l =>
      cases b
      case int n =>
        simp only [RV] at ra
        obtain ⟨l1, vs1, n1, rfl, nb1, o1, r1, -⟩ := ra
        obtain ⟨u, rfl⟩ := rb.int_inv
        refine ifsE e fun hs e => ?_; cases e
        obtain ⟨h0, h1, h2⟩ := hs
        have hlen := r1.length
        have hmul : vs1.length * n.toNat ≤ 1000 * 1000 := Nat.mul_le_mul (by omega) (by omega)
        refine wpAny_binaryOp_repeat_ref (T := "list") (U := "int") (by decide) ⟨_, o1, rfl⟩ (fun s' => typeIs_int s' n u) noFill_list_mul F.fills_int_mul F.slot_int_rmul repeat_list F.slot_int_index.lookup
          (call_meets F.slot_int_rmul (typeIs_int s n u) F.entry_int_rmul (F.args_int_rmul_2 _ _) (int___rmul___int_list n u l1 vs1.toArray n1)
            ⟨o1, rfl, ⟨_, o1, rfl⟩, call_meets F.slot_list_mul ⟨_, o1, rfl⟩ F.entry_list_mul (F.args_list_mul_2 _ _)
              (AutoListH.list___mul___list_int_3 l1 vs1.toArray n1 n u (by simp [Builtin.List.listFitsIndex]; omega) (by simp only [List.size_toArray]; omega) (by simp only [Builtin.List.listTooLong, sizeLine, List.size_toArray]; simp; omega))
              ⟨o1, ?_⟩⟩)
        refine ⟨kp_push s _, ?_⟩
        simp only [RV]
        refine ⟨_, (List.replicate n.toNat vs1).flatten, 0, rfl, fun q => Nat.lt_irrefl _ (hB _ q), ?_, (rvs_flatten r1 _).keep (kp_heap (kp_push s _)), ?_⟩
        rotate_left
        · have : l.length * n.toNat ≤ 1000 * 1000 := Nat.mul_le_mul h2 (by omega)
          have e2 : (List.replicate n.toNat l).flatten.length = l.length * n.toNat := by simp [Nat.mul_comm]
          have : (1000 * 1000 : Nat) ≤ lim := by decide
          omega
        show (s.heap.push _).get? _ = _
        rw [Heap.get?_push_size _ rfl, foldl_append_arr]
        by_cases hz : vs1 = []
        · subst hz; simp
        · have : vs1.toArray.isEmpty = false := by cases vs1 with | nil => exact absurd rfl hz | cons x r => rfl
          simp [this]
      all_goals exact nns e
    all_goals exact nns e
  case FloorDiv =>
    cases a
    case int x =>
      cases b
      case int y =>
        obtain ⟨t, rfl⟩ := ra.int_inv; obtain ⟨u, rfl⟩ := rb.int_inv
        refine ifsE e fun hs e => ?_; cases e
        exact floordiv_int hs.1 ⟨kp_tok s _, rv_int⟩ (Or.inl (PyProof.noPylong_small hs.2))
      all_goals exact nns e
    all_goals exact nns e
  case Mod =>
    cases a
    case int x =>
      cases b
      case int y =>
        obtain ⟨t, rfl⟩ := ra.int_inv; obtain ⟨u, rfl⟩ := rb.int_inv
        refine ifsE e fun hs e => ?_; cases e
        exact mod_int hs ⟨kp_tok s _, rv_int⟩
      all_goals exact nns e
    all_goals exact nns e
  case Pow =>
    cases a
    case int x =>
      cases b
      case int n =>
        obtain ⟨t, rfl⟩ := ra.int_inv; obtain ⟨u, rfl⟩ := rb.int_inv
        refine ifsE e fun hs e => ?_; cases e
        refine pow_int_small hs.1 (by omega) ?_ ⟨kp_tok s _, rv_int⟩
        have : _ < 2 ^ 62 := of_decide_eq_true hs.2.2
        omega

      all_goals exact nns e
    all_goals exact nns e
  all_goals exact nns e
end

end Mine

end

section
open PySem PySem.W PyProof.Rows PySem.SeqAt
set_option Elab.async false
namespace Mine

section
variable {prog : Program} {w : World} {A : Around} {s : Shared} {B : Addr → Prop} {N : Nat}

theorem truth_ok {d : D} {v : Value} {b : Bool} (r : RV w s.heap B d v) (e : truth d = some b) : Yields prog w A (truthy v) s (fun c _ => c = b) := by
  cases d with
  | none => simp only [RV] at r; subst r; cases e; exact truthy_none ⟨kp_refl s, rfl⟩
  | bool c => simp only [RV] at r; subst r; cases e; exact wpAny_truthy_bool ⟨kp_refl s, rfl⟩
  | int i => obtain ⟨t, rfl⟩ := r.int_inv; cases e; exact P.truthy_int ⟨kp_refl s, rfl⟩
  | str x =>
    obtain ⟨t, rfl, hx⟩ := r.str_inv; cases e
    refine PySem.P.truthy_str ?_ ⟨kp_tok s _, ?_⟩
    · have : lim < 2 ^ 63 := by decide
      omega
    · cases h : x.length with
      | zero => rfl
      | succ n => simp [bne]; omega
  | list l =>
    simp only [RV] at r; obtain ⟨a, vs, n, rfl, _, ho, rs, hl⟩ := r; cases e
    have hlen := rs.length
    refine wpAny_truthy_list ⟨_, ho, rfl, n, rfl⟩ ?_ ⟨kp_tok s _, ?_⟩
    · have : lim < 2 ^ 63 := by decide
      simp only [List.size_toArray]; omega
    · rw [← hlen]; cases vs <;> simp [bne]
  | _ => cases e

theorem unary_ok {op : UnaryOp} {a d : D} {va : Value} (ra : RV w s.heap B a va) (e : unD op a = some d) : Yields prog w A (unaryOp op va) s (fun v h => RV w h B d v) := by
  unfold unD at e
  split at e
  · cases ht : truth a with
    | none => rw [ht] at e; cases e
    | some b =>
      rw [ht] at e; cases e
      exact not_of ((truth_ok ra ht).use fun c s' k q => ⟨k, by rw [q]; exact rv_bool⟩)
  · obtain ⟨t, rfl⟩ := ra.int_inv; cases e
    exact P.neg_int ⟨kp_tok s _, rv_int⟩
  · cases e

theorem eqS_at {a b : D} {va vb : Value} {e : Bool} (ra : RV w s.heap B a va) (rb : RV w s.heap B b vb) (h : eqS a b = some e) : EqAt A s va vb e := by
  unfold eqS at h
  split at h
  · obtain ⟨t, rfl⟩ := ra.int_inv; obtain ⟨u, rfl⟩ := rb.int_inv; cases h
    exact (MeetsSeq.EqGives.int _ _ _ _).at _ _
  · obtain ⟨t, rfl, -⟩ := ra.str_inv; obtain ⟨u, rfl, -⟩ := rb.str_inv; cases h
    rename_i x y
    have : (x == y) = (x.cps.toList == y.cps.toList) := by
      obtain ⟨⟨x⟩⟩ := x; obtain ⟨⟨y⟩⟩ := y
      by_cases h : x = y
      · subst h; simp
      · have h1 : ¬ ((⟨⟨x⟩⟩ : Str) = ⟨⟨y⟩⟩) := by simpa using h
        rw [beq_false_of_ne h1, beq_false_of_ne (by simpa using h)]
    rw [this]
    exact (SeqRoads2.EqGives.str _ _ _ _).at _ _
  · simp only [RV] at ra rb; subst ra rb; cases h
    intro prog' w' E Q hq
    rename_i p q
    unfold eqBool
    refine wpAny_holding ?_
    refine wpAny_ite_split (fun hab => ?_) (fun hab => ?_)
    · have := eq_of_beq hab
      injection this with this
      subst this
      simp only [beq_self_eq_true] at hq
      exact wpAny_bind (wpAny_rule (wpAny_pure hq))
    · exact wpAny_bind (PyProof.Rows.eq_bool (wpAny_truthy_bool hq))
  · cases h

noncomputable def eqAtF (f : D → D → Option Bool) (xs ys : List D) (j : Nat) : Bool := match xs[j]?, ys[j]? with
  | some x, some y => (f x y).getD false
  | _, _ => false
theorem eqLs_all (f : D → D → Option Bool) : ∀ (xs ys : List D) (r : Bool), eqLs f xs ys = some r → xs.length = ys.length ∧ r = (List.range xs.length).all (eqAtF f xs ys) ∧ ∀ j x y, xs[j]? = some x → ys[j]? = some y → f x y = some (eqAtF f xs ys j)
  | [], [], r, h => by cases h; exact ⟨rfl, by simp, by simp⟩
  | x :: xs, y :: ys, r, h => by
    unfold eqLs at h
    split at h
    · rename_i p q hp hq
      cases h
      obtain ⟨h1, h2, h3⟩ := eqLs_all f xs ys q hq
      refine ⟨by simp [h1], ?_, ?_⟩
      · rw [List.length_cons, List.range_succ_eq_map, List.all_cons, List.all_map]
        have : eqAtF f (x :: xs) (y :: ys) 0 = p := by simp [eqAtF, hp]
        rw [this, h2]; rfl
      · intro j u v e e'
        cases j with
        | zero => simp at e e'; subst e e'; simp [eqAtF, hp]
        | succ j => simp at e e'; rw [h3 j u v e e']; rfl
    · cases h
  | [], _ :: _, r, h => by simp [eqLs] at h
  | _ :: _, [], r, h => by simp [eqLs] at h

theorem eqS_same {h : Heap} {a b : D} {v : Value} {e : Bool} (ra : RV w h B a v) (rb : RV w h B b v) (q : eqS a b = some e) : e = true := by
  unfold eqS at q
  split at q
  · simp only [RV] at ra rb; obtain ⟨t, rfl⟩ := ra; obtain ⟨u, hu⟩ := rb; cases hu; cases q; simp
  · simp only [RV] at ra rb; obtain ⟨t, rfl, -⟩ := ra; obtain ⟨u, hu, -⟩ := rb; cases hu; cases q; simp
  · simp only [RV] at ra rb; subst ra; cases rb; cases q; simp
  · cases q
theorem eqN_same {h : Heap} : ∀ (n : Nat) {a b : D} {v : Value} {e : Bool}, RV w h B a v → RV w h B b v → eqN n a b = some e → e = true
  | 0, a, b, v, e, ra, rb, q => eqS_same ra rb q
  | n + 1, a, b, v, e, ra, rb, q => by
    unfold eqN at q
    split at q
    · rename_i xs ys
      simp only [RV] at ra rb
      obtain ⟨l1, vs1, n1, rfl, _, o1, r1, -⟩ := ra
      obtain ⟨l2, vs2, n2, h2, _, o2, r2, -⟩ := rb
      cases h2
      rw [IsL, o1] at o2
      simp only [Option.some.injEq, Obj.mk.injEq, Data.seq.injEq, true_and, and_true] at o2
      have hv : vs1 = vs2 := by have := o2.1; simpa using this
      subst hv
      split at q
      · obtain ⟨hl, hr, hj⟩ := eqLs_all _ _ _ _ q
        rw [hr, List.all_eq_true]
        intro j hj'
        have hj1 := List.mem_range.mp hj'
        have hj2 : j < ys.length := by rw [← hl]; exact hj1
        obtain ⟨v1, e1, rv1⟩ := r1.get j _ (List.getElem?_eq_getElem hj1)
        obtain ⟨v2, e2, rv2⟩ := r2.get j _ (List.getElem?_eq_getElem hj2)
        rw [e1] at e2; cases e2
        exact eqN_same n rv1 rv2 (hj j _ _ (List.getElem?_eq_getElem hj1) (List.getElem?_eq_getElem hj2))
      · rename_i hne
        exact absurd (r1.length.symm.trans r2.length) hne
    · exact eqS_same ra rb q

theorem eqN_at : ∀ (n : Nat) {A : Around} {a b : D} {va vb : Value} {e : Bool}, A.units + n < cLine → RV w s.heap B a va → RV w s.heap B b vb → eqN n a b = some e → EqAt A s va vb e
  | 0, _, a, b, va, vb, e, _, ra, rb, q => eqS_at ra rb q
  | n + 1, A, a, b, va, vb, e, hu, ra, rb, q => by
    have q0 := q
    have ra0 := ra
    have rb0 := rb
    unfold eqN at q
    split at q
    · rename_i xs ys
      simp only [RV] at ra rb
      obtain ⟨l1, vs1, n1, rfl, _, o1, r1, -⟩ := ra
      obtain ⟨l2, vs2, n2, rfl, _, o2, r2, -⟩ := rb
      by_cases hll : l1 = l2
      · subst hll
        rw [eqN_same (n + 1) ra0 rb0 q0]
        exact EqAt.same _
      · refine EqAt.of_refs hll ?_
        split at q
        · obtain ⟨hl, hr, hj⟩ := eqLs_all _ _ _ _ q
          have := RcAt.lists (A := A) (s := s) (l := l1) (b := l2) (items := vs1.toArray) (items2 := vs2.toArray) (e := eqAtF (eqN n) xs ys) ⟨_, o1, rfl, n1, rfl⟩ ⟨_, o2, rfl, n2, rfl⟩
            (by simp only [List.size_toArray, r1.length, r2.length]; exact hl) (by omega) (fun j h1 h2 => ?_)
          · simp only [List.size_toArray, r1.length] at this
            rw [hr]; exact this
          · simp only [List.size_toArray] at h1 h2
            obtain ⟨d1, e1, rv1⟩ := r1.get' j vs1[j] (List.getElem?_eq_getElem h1)
            obtain ⟨d2, e2, rv2⟩ := r2.get' j vs2[j] (List.getElem?_eq_getElem h2)
            exact eqN_at n (by simp only [Around.in1]; omega) rv1 rv2 (hj j d1 d2 e1 e2)
        · rename_i hne
          cases q
          exact RcAt.lists_lengths (items := vs1.toArray) (items2 := vs2.toArray) ⟨_, o1, rfl, n1, rfl⟩ ⟨_, o2, rfl, n2, rfl⟩ (by simp only [List.size_toArray, r1.length, r2.length, bne_iff_ne, ne_eq]; exact hne) (by omega)
    · exact eqS_at ra rb q

theorem eq_ok {a b : D} {va vb : Value} {e : Bool} (hu : A.units + 10 < cLine) (ra : RV w s.heap B a va) (rb : RV w s.heap B b vb) (q : eqD a b = some e) :
    Yields prog w A (compareOp .Eq va vb) s (fun v h => RV w h B (.bool e) v) := by
  unfold eqD at q
  have q0 := q
  have ra0 := ra
  have rb0 := rb
  unfold eqN at q
  split at q
  · rename_i xs ys
    simp only [RV] at ra rb
    obtain ⟨l1, vs1, n1, rfl, _, o1, r1, -⟩ := ra
    obtain ⟨l2, vs2, n2, rfl, _, o2, r2, -⟩ := rb
    split at q
    · obtain ⟨hl, hr, hj⟩ := eqLs_all _ _ _ _ q
      refine eq_listAt (items := vs1.toArray) (items2 := vs2.toArray) (e := eqAtF (eqN 3) xs ys) ⟨_, o1, rfl, n1, rfl⟩ ⟨_, o2, rfl, n2, rfl⟩
        (by simp only [List.size_toArray, r1.length, r2.length]; exact hl) (by omega) (fun j h1 h2 => ?_) ⟨kp_refl s, ?_⟩
      · simp only [List.size_toArray] at h1 h2
        obtain ⟨d1, e1, rv1⟩ := r1.get' j vs1[j] (List.getElem?_eq_getElem h1)
        obtain ⟨d2, e2, rv2⟩ := r2.get' j vs2[j] (List.getElem?_eq_getElem h2)
        exact eqN_at 3 (by simp only [Around.in1]; omega) rv1 rv2 (hj j d1 d2 e1 e2)
      · simp only [List.size_toArray, r1.length]
        rw [← hr]; exact rv_bool
    · rename_i hne
      cases q
      exact eq_list_lengthsAt (items := vs1.toArray) (items2 := vs2.toArray) ⟨_, o1, rfl, n1, rfl⟩ ⟨_, o2, rfl, n2, rfl⟩ (by simp only [List.size_toArray, r1.length, r2.length, bne_iff_ne, ne_eq]; exact hne) (by omega) ⟨kp_refl s, rv_bool⟩
  · unfold eqS at q
    split at q
    · obtain ⟨t, rfl⟩ := ra.int_inv; obtain ⟨u, rfl⟩ := rb.int_inv; cases q
      exact PyProof.Rows.eq_int ⟨kp_refl s, rv_bool⟩
    · obtain ⟨t, rfl, -⟩ := ra.str_inv; obtain ⟨u, rfl, -⟩ := rb.str_inv; cases q
      exact PyProof.Rows.eq_str ⟨kp_refl s, rv_bool⟩
    · simp only [RV] at ra rb; subst ra rb; cases q
      exact PyProof.Rows.eq_bool ⟨kp_refl s, rv_bool⟩
    · cases q

theorem ne_ok {a b : D} {va vb : Value} {e : Bool} (hu : A.units + 10 < cLine) (ra : RV w s.heap B a va) (rb : RV w s.heap B b vb) (q : eqD a b = some e) :
    Yields prog w A (compareOp .NotEq va vb) s (fun v h => RV w h B (.bool !e) v) := by
  unfold eqD at q
  have q0 := q
  have ra0 := ra
  have rb0 := rb
  unfold eqN at q
  split at q
  · rename_i xs ys
    simp only [RV] at ra rb
    obtain ⟨l1, vs1, n1, rfl, _, o1, r1, -⟩ := ra
    obtain ⟨l2, vs2, n2, rfl, _, o2, r2, -⟩ := rb
    split at q
    · obtain ⟨hl, hr, hj⟩ := eqLs_all _ _ _ _ q
      refine RcNeAt.lists (items := vs1.toArray) (items2 := vs2.toArray) (e := eqAtF (eqN 3) xs ys) ⟨_, o1, rfl, n1, rfl⟩ ⟨_, o2, rfl, n2, rfl⟩
        (by simp only [List.size_toArray, r1.length, r2.length]; exact hl) (by omega) (fun j h1 h2 => ?_) prog w _ _ ⟨kp_refl s, ?_⟩
      · simp only [List.size_toArray] at h1 h2
        obtain ⟨d1, e1, rv1⟩ := r1.get' j vs1[j] (List.getElem?_eq_getElem h1)
        obtain ⟨d2, e2, rv2⟩ := r2.get' j vs2[j] (List.getElem?_eq_getElem h2)
        exact eqN_at 3 (by simp only [Around.in1]; omega) rv1 rv2 (hj j d1 d2 e1 e2)
      · simp only [List.size_toArray, r1.length]
        rw [← hr]; exact rv_bool
    · rename_i hne
      cases q
      exact RcNeAt.lists_lengths (items := vs1.toArray) (items2 := vs2.toArray) ⟨_, o1, rfl, n1, rfl⟩ ⟨_, o2, rfl, n2, rfl⟩ (by simp only [List.size_toArray, r1.length, r2.length, bne_iff_ne, ne_eq]; exact hne) (by omega) prog w _ _ ⟨kp_refl s, rv_bool⟩
  · unfold eqS at q
    split at q
    · obtain ⟨t, rfl⟩ := ra.int_inv; obtain ⟨u, rfl⟩ := rb.int_inv; cases q
      exact PyProof.Rows.ne_int ⟨kp_refl s, rv_bool⟩
    · obtain ⟨t, rfl, -⟩ := ra.str_inv; obtain ⟨u, rfl, -⟩ := rb.str_inv; cases q
      exact PyProof.Rows.ne_str ⟨kp_refl s, rv_bool⟩
    · simp only [RV] at ra rb; subst ra rb; cases q
      exact PyProof.Rows.ne_bool ⟨kp_refl s, rv_bool⟩
    · cases q
end

end Mine

end

section
open PySem PySem.W PyProof.Rows PySem.SeqAt
set_option Elab.async false
namespace Mine

section
variable {prog : Program} {w : World} {A : Around} {s : Shared} {B : Addr → Prop} {N : Nat}

theorem look_find {h : Heap} {x : D} {P : Value → Bool} (hP : ∀ k kv b, RV w h B k kv → eqS k x = some b → P kv = b) : ∀ (es : List DictEntry) (ks vs : List D) (r : Option D),
    RVs w h B ks (es.map (·.key)) → RVs w h B vs (es.map (·.val)) → lookD ks vs x = some r →
    match r with
      | none => es.find? (fun e => P e.key) = none
      | some d => ∃ e, es.find? (fun e => P e.key) = some e ∧ RV w h B d e.val
  | [], ks, vs, r, hk, hv, e => by
    have h1 := hk.length; have h2 := hv.length
    simp at h1 h2
    have : ks = [] := List.length_eq_zero_iff.mp h1.symm
    have : vs = [] := List.length_eq_zero_iff.mp h2.symm
    subst ks vs
    cases e
    rfl
  | en :: es, ks, vs, r, hk, hv, e => by
    cases ks with
    | nil => have h1 := hk.length; simp at h1
    | cons k ks =>
      cases vs with
      | nil => have h1 := hv.length; simp at h1
      | cons v vs =>
        obtain ⟨kv, kvs, he, rk, rks⟩ := hk.uncons
        obtain ⟨vv, vvs, he', rv, rvs⟩ := hv.uncons
        rw [List.map_cons] at he he'
        cases he; cases he'
        unfold lookD at e
        split at e
        · rename_i hq
          cases e
          have hp := hP k en.key true rk hq
          exact ⟨en, by simp [hp], rv⟩
        · rename_i hq
          have hp := hP k en.key false rk hq
          have ih := look_find hP es ks vs r rks rvs e
          rw [List.find?_cons]
          simp only [hp]
          exact ih
        · cases e

theorem eqS_str {h : Heap} {y : Str} {k : D} {kv : Value} {b : Bool} (r : RV w h B k kv) (e : eqS k (.str y) = some b) : Value.isStrOf y kv = b := by
  cases k with
  | str x => obtain ⟨t, rfl, -⟩ := r.str_inv; simp only [eqS, Option.some.injEq] at e; subst e; rfl
  | _ => simp [eqS] at e
theorem eqS_int {h : Heap} {y : Int} {k : D} {kv : Value} {b : Bool} (r : RV w h B k kv) (e : eqS k (.int y) = some b) : Value.isInt y kv = b := by
  cases k with
  | int x => obtain ⟨t, rfl⟩ := r.int_inv; simp only [eqS, Option.some.injEq] at e; subst e; rfl
  | _ => simp [eqS] at e

theorem look_key {ks vs : List D} {x : D} {r : Option D} (e : lookD ks vs x = some r) : ks = [] ∨ (∃ y, x = .str y ∧ allInt ks = false) ∨ (∃ y, x = .int y ∧ allStr ks = false) ∨ (∃ y, x = .bool y ∧ allStr ks = false ∧ allInt ks = false) := by
  cases ks with
  | nil => exact .inl rfl
  | cons k ks =>
    cases vs with
    | nil => simp [lookD] at e
    | cons v vs =>
      unfold lookD at e
      split at e
      · rename_i hq
        unfold eqS at hq
        split at hq <;> simp_all [allInt, allStr]
      · rename_i hq
        unfold eqS at hq
        split at hq <;> simp_all [allInt, allStr]
      · cases e

/-- a lookup by a text -/
theorem dict_str {h : Heap} {ks vs : List D} {es : Array DictEntry} {n : Nat} {a : Addr} {y : Str} {r : Option D} (ho : h.get? a = some ⟨.type "dict", none, .dict es n, #[]⟩)
    (rk : RVs w h B ks (es.toList.map (·.key))) (rv : RVs w h B vs (es.toList.map (·.val))) (hh : HashOk w ks es.toList) (e : lookD ks vs (.str y) = some r) :
    ∃ f, h.MapOf (strKind prog w) a f ∧ match r with | none => f y = none | some d => ∃ v, f y = some v ∧ RV w h B d v := by
  have hkeys : KeysOf (strKind prog w) es := by
    intro en hen
    have hen' : en ∈ es.toList := Array.mem_toList_iff.mpr hen
    rcases hh with ⟨xs, hks, _, hs⟩ | ⟨xs, hks, _⟩
    · obtain ⟨x, t, e1, e2⟩ := hs en hen'
      exact ⟨x, by rw [e1]; exact strKind_is prog w x t, e2⟩
    · rcases look_key e with h0 | ⟨_, _, h1⟩ | ⟨_, h1, _⟩ | ⟨_, h1, _⟩
      · subst h0; have := rk.length; simp at this; subst this; simp at hen
      · rw [hks, allInt_map] at h1; cases h1
      · cases h1
      · cases h1
  refine ⟨fun k => findBy Value.isStrOf es k, ⟨_, es, n, ho, ⟨rfl, rfl, rfl⟩, rfl, hkeys, fun _ => rfl⟩, ?_⟩
  have := look_find (P := Value.isStrOf y) (fun k kv b r' q => eqS_str r' q) es.toList ks vs r rk rv e
  cases r with
  | none =>
    simp only at this ⊢
    unfold findBy
    rw [← Array.find?_toList, this]; rfl
  | some d =>
    obtain ⟨en, h1, h2⟩ := this
    simp only
    unfold findBy
    rw [← Array.find?_toList, h1]
    exact ⟨_, rfl, h2⟩
theorem dict_int {h : Heap} {ks vs : List D} {es : Array DictEntry} {n : Nat} {a : Addr} {y : Int} {r : Option D} (ho : h.get? a = some ⟨.type "dict", none, .dict es n, #[]⟩)
    (rk : RVs w h B ks (es.toList.map (·.key))) (rv : RVs w h B vs (es.toList.map (·.val))) (hh : HashOk w ks es.toList) (e : lookD ks vs (.int y) = some r) :
    ∃ f, h.MapOf (intKind prog w) a f ∧ match r with | none => f y = none | some d => ∃ v, f y = some v ∧ RV w h B d v := by
  have hkeys : KeysOf (intKind prog w) es := by
    intro en hen
    have hen' : en ∈ es.toList := Array.mem_toList_iff.mpr hen
    rcases hh with ⟨xs, hks, _⟩ | ⟨xs, hks, _, hs⟩
    · rcases look_key e with h0 | ⟨_, h1, _⟩ | ⟨_, _, h1⟩ | ⟨_, h1, _⟩
      · subst h0; have := rk.length; simp at this; subst this; simp at hen
      · cases h1
      · rw [hks, allStr_map] at h1; cases h1
      · cases h1
    · obtain ⟨x, t, e1, e2⟩ := hs en hen'
      exact ⟨x, by rw [e1]; exact intKind_is prog w x t, e2⟩
  refine ⟨fun k => findBy Value.isInt es k, ⟨_, es, n, ho, ⟨rfl, rfl, rfl⟩, rfl, hkeys, fun _ => rfl⟩, ?_⟩
  have := look_find (P := Value.isInt y) (fun k kv b r' q => eqS_int r' q) es.toList ks vs r rk rv e
  cases r with
  | none =>
    simp only at this ⊢
    unfold findBy
    rw [← Array.find?_toList, this]; rfl
  | some d =>
    obtain ⟨en, h1, h2⟩ := this
    simp only
    unfold findBy
    rw [← Array.find?_toList, h1]
    exact ⟨_, rfl, h2⟩

theorem inL_any {h : Heap} {x : D} : ∀ (l : List D) (vs : List Value) (b : Bool) (f : Value → Bool), RVs w h B l vs → inL x l = some b → (∀ d v c, RV w h B d v → eqS d x = some c → f v = c) → b = vs.any f
  | [], vs, b, f, r, e, hf => by obtain rfl := r.nil_inv; cases e; rfl
  | d :: l, vs, b, f, r, e, hf => by
    obtain ⟨v, vs', rfl, r1, r2⟩ := r.uncons
    unfold inL at e
    split at e
    · rename_i p q hp hq
      cases e
      rw [List.any_cons, hf d v p r1 hp, ← inL_any l vs' q f r2 hq hf]
    · cases e

theorem inL_all {x : D} : ∀ (l : List D) (b : Bool), inL x l = some b → ∀ d ∈ l, ∃ c, eqS d x = some c
  | [], b, e => by simp
  | d :: l, b, e => by
    unfold inL at e
    split at e
    · rename_i p q hp hq
      intro d' hd'
      rcases List.mem_cons.mp hd' with rfl | hd'
      · exact ⟨p, hp⟩
      · exact inL_all l q hq d' hd'
    · cases e

/-- the value's own answer to «equals x», for a scalar x -/
noncomputable def eqTo : D → Value → Bool
  | .str y, v => Value.isStrOf y v
  | .int y, v => Value.isInt y v
  | .bool y, v => v == .bool y
  | _, _ => false
theorem eqTo_is {h : Heap} {x d : D} {v : Value} {c : Bool} (r : RV w h B d v) (e : eqS d x = some c) : eqTo x v = c := by
  cases x with
  | str y => exact eqS_str r e
  | int y => exact eqS_int r e
  | bool y =>
    cases d with
    | bool z =>
      simp only [RV] at r; subst r; simp only [eqS, Option.some.injEq] at e; subst e
      simp only [eqTo]
      cases z <;> cases y <;> rfl
    | _ => simp [eqS] at e
  | _ => cases d <;> simp [eqS] at e

theorem cmp_ok {op : CmpOp} {a b d : D} {va vb : Value} (hu : A.units + 10 < cLine) (ra : RV w s.heap B a va) (rb : RV w s.heap B b vb) (e : cmpD op a b = some d) :
    Yields prog w A (compareOp op va vb) s (fun v h => RV w h B d v) := by
  cases op
  case Eq => refine mpdE e fun c hq eqv => ?_; subst eqv; exact eq_ok hu ra rb hq
  case NotEq => refine mpdE e fun c hq eqv => ?_; subst eqv; exact ne_ok hu ra rb hq
  case Lt =>
    cases a
    case int x =>
      cases b
      case int y =>
        obtain ⟨t, rfl⟩ := ra.int_inv; obtain ⟨u, rfl⟩ := rb.int_inv; cases e
        exact PySem.P.lt_int ⟨kp_refl s, rv_bool⟩
      all_goals exact nns e
    all_goals exact nns e
  case LtE =>
    cases a
    case int x =>
      cases b
      case int y =>
        obtain ⟨t, rfl⟩ := ra.int_inv; obtain ⟨u, rfl⟩ := rb.int_inv; cases e
        exact PySem.P.le_int ⟨kp_refl s, rv_bool⟩
      all_goals exact nns e
    all_goals exact nns e
  case Gt =>
    cases a
    case int x =>
      cases b
      case int y =>
        obtain ⟨t, rfl⟩ := ra.int_inv; obtain ⟨u, rfl⟩ := rb.int_inv; cases e
        exact PySem.P.gt_int ⟨kp_refl s, rv_bool⟩
      all_goals exact nns e
    all_goals exact nns e
  case GtE =>
    cases a
    case int x =>
      cases b
      case int y =>
        obtain ⟨t, rfl⟩ := ra.int_inv; obtain ⟨u, rfl⟩ := rb.int_inv; cases e
        exact PySem.P.ge_int ⟨kp_refl s, rv_bool⟩
      all_goals exact nns e
    all_goals exact nns e
  case Is =>
    cases a
    case bool x =>
      cases b
      case bool y =>
        simp only [RV] at ra rb; subst ra rb; cases e
        exact is_bool ⟨kp_refl s, rv_bool⟩
      all_goals exact nns e
    all_goals exact nns e
  case In =>
    cases b
    case tuple l =>
      refine mpdE e fun c hq eqv => ?_; subst eqv
      simp only [RV] at rb
      obtain ⟨t, vs, n, rfl, _, ho, rs, -⟩ := rb
      refine in_tupleAt (items := vs.toArray) (eqTo a) ⟨_, ho, rfl, n, rfl⟩ (fun y hy => ?_) ⟨kp_refl s, ?_⟩
      · have hy' : y ∈ vs := by simpa using hy
        obtain ⟨j, hj, rfl⟩ := List.mem_iff_getElem.mp hy'
        obtain ⟨dj, e1, rvj⟩ := rs.get' j _ (List.getElem?_eq_getElem hj)
        obtain ⟨cj, hc⟩ := inL_all l c hq dj (List.mem_of_getElem? e1)
        rw [eqTo_is rvj hc]
        exact eqS_at rvj ra hc
      · rw [inL_any l vs c (eqTo a) rs hq (fun d v c r q => eqTo_is r q)]
        have : vs.toArray.any (eqTo a) = vs.any (eqTo a) := by simp
        rw [this]; exact rv_bool
    case dict ks vs =>
      refine ifsE e fun hkk e => ?_
      refine mpdE e fun r hq eqv => ?_; subst eqv
      simp only [RV] at rb
      obtain ⟨t, es, n, rfl, _, hsys, ho, rk, rv, hh⟩ := rb
      have hsys' : (t == sysModules) = false := by simpa using hsys
      cases a with
      | str y =>
        obtain ⟨u, rfl, -⟩ := ra.str_inv
        obtain ⟨f, hm, hf⟩ := dict_str (prog := prog) ho rk rv hh hq
        refine wpAny_in_of (strKind_is prog w y u) hsys' hm ⟨kp_tok s _, ?_⟩
        cases r with
        | none => rw [hf]; exact rv_bool
        | some d => obtain ⟨v, h1, _⟩ := hf; rw [h1]; exact rv_bool
      | int y =>
        obtain ⟨u, rfl⟩ := ra.int_inv
        obtain ⟨f, hm, hf⟩ := dict_int (prog := prog) ho rk rv hh hq
        refine wpAny_in_of (intKind_is prog w y u) hsys' hm ⟨kp_tok s _, ?_⟩
        cases r with
        | none => rw [hf]; exact rv_bool
        | some d => obtain ⟨v, h1, _⟩ := hf; rw [h1]; exact rv_bool
      | _ => exact Bool.noConfusion hkk

    all_goals exact nns e
  all_goals exact nns e
end

end Mine

end

section
open PySem PySem.W PyProof.Rows PySem.SeqAt
set_option Elab.async false
namespace Mine

theorem sliceIdx_eq (lo hi st : Option Int) (n : Nat) : Builtin.Str.strSliceIndices lo hi (st.getD 1) n = sliceRange (sliceBounds lo hi st n).1 (sliceBounds lo hi st n).2.1 (sliceBounds lo hi st n).2.2 := by
  cases lo <;> cases hi <;> rfl

theorem cutL_plain {α : Type} (l : List α) (lo hi : Option Int) : cutL l lo hi 1 = (l.drop (lo.elim 0 (clipAt l.length))).take (hi.elim l.length (clipAt l.length) - lo.elim 0 (clipAt l.length)) := by
  unfold cutL
  have := sliceIdx_eq lo hi none l.length
  rw [show (none : Option Int).getD 1 = 1 from rfl] at this
  rw [this, sliceBounds_plain, sliceRange_one]
  have := pick_run l.toArray (lo.elim 0 (clipAt l.length)) (hi.elim l.length (clipAt l.length) - lo.elim 0 (clipAt l.length))
  simpa using this

theorem slicePick_cut (vs : List Value) (lo hi st : Option Int) : slicePick vs.toArray lo hi st = (cutL vs lo hi (st.getD 1)).toArray := by
  unfold slicePick cutL
  rw [← sliceIdx_eq]
  simp

theorem cutL_len {α : Type} (l : List α) (lo hi : Option Int) (st : Option Int) : (cutL l lo hi (st.getD 1)).length ≤ l.length := by
  unfold cutL
  refine Nat.le_trans (List.length_filterMap_le _ _) ?_
  rw [sliceIdx_eq]
  refine sliceRange_length_le _ _ _ _ ?_ ?_
  · intro hc
    simp only [sliceBounds] at hc ⊢
    simp only [hc, if_true]
    constructor
    · cases lo with
      | none => simp
      | some i => dsimp only; omega
    · cases hi with
      | none => simp
      | some i => dsimp only; omega
  · intro hc
    simp only [sliceBounds] at hc ⊢
    simp only [hc, if_false]
    constructor
    · cases lo with
      | none => simp
      | some i => dsimp only; omega
    · cases hi with
      | none => simp
      | some i => dsimp only; omega

section
variable {prog : Program} {w : World} {A : Around} {s : Shared} {B : Addr → Prop} {N : Nat}

theorem rvs_pick {h : Heap} {l : List D} {vs : List Value} (r : RVs w h B l vs) : ∀ idx : List Nat, RVs w h B (idx.filterMap (l[·]?)) (idx.filterMap (vs[·]?))
  | [] => .nil
  | i :: idx => by
    have hl := r.length
    by_cases hi : i < l.length
    · obtain ⟨v, e, rv⟩ := r.get i _ (List.getElem?_eq_getElem hi)
      rw [List.filterMap_cons_some (List.getElem?_eq_getElem hi), List.filterMap_cons_some e]
      exact .cons rv (rvs_pick r idx)
    · rw [List.filterMap_cons_none (List.getElem?_eq_none (by omega)), List.filterMap_cons_none (List.getElem?_eq_none (by omega))]
      exact rvs_pick r idx
theorem rvs_cut {h : Heap} {l : List D} {vs : List Value} (r : RVs w h B l vs) (lo hi : Option Int) (st : Int) : RVs w h B (cutL l lo hi st) (cutL vs lo hi st) := by
  unfold cutL
  rw [r.length]
  exact rvs_pick r _

theorem idxD_seq {n : Nat} {i : Int} {j : Nat} (e : idxD n i = some j) : seqIndex? i n = some j ∧ j < n ∧ -(n : Int) ≤ i ∧ i < n ∧ (0 ≤ i → j = i.toNat) ∧ (i < 0 → j = (i + n).toNat) := by
  unfold idxD at e
  by_cases hi : i < 0
  · simp only [hi, if_true] at e
    split at e
    · rename_i h
      cases e
      refine ⟨?_, by omega, by omega, by omega, by omega, fun _ => rfl⟩
      unfold seqIndex?
      simp only [hi, if_true, h.1, h.2, decide_true, Bool.and_self]
    · cases e
  · simp only [hi, if_false] at e
    split at e
    · rename_i h
      cases e
      refine ⟨?_, by omega, by omega, by omega, fun _ => rfl, by omega⟩
      unfold seqIndex?
      simp only [hi, if_false, h.1, h.2, decide_true, Bool.and_self, if_true]
    · cases e

/-- no slice -/
noncomputable def plainIdx : Expr → Bool
  | .Slice .. => false
  | _ => true
theorem subscripted_plain {slice : Expr} (h : plainIdx slice = true) (o i : Value) : subscripted slice false o i = operate [o, i] (getItem o i) := by
  cases slice <;> first | rfl | simp [plainIdx] at h

theorem lim63 {n : Nat} (h : n ≤ lim) : (n : Int) < 2 ^ 63 := by
  have : lim < 2 ^ 63 := by decide
  omega

theorem item_ok {value slice : Expr} {o i d : D} {vo vi : Value} (hs : plainIdx slice = true) (ro : RV w s.heap B o vo) (ri : RV w s.heap B i vi) (e : itemD o i = some d) :
    Yields prog w A (subscriptTail value slice vo vi) s (fun v h => RV w h B d v) := by
  unfold itemD at e
  split at e
  · rename_i l k
    simp only [RV] at ro ri
    obtain ⟨a, vs, n, rfl, _, ho, rs, hl⟩ := ro
    obtain ⟨t, rfl⟩ := ri
    cases hj : idxD l.length k with
    | none => rw [hj] at e; cases e
    | some j =>
      rw [hj] at e
      obtain ⟨h1, h2, h3, h4, h5, h6⟩ := idxD_seq hj
      obtain ⟨v, e', rv⟩ := rs.get j d e
      have hlen := rs.length
      have h63 := lim63 hl
      have hL : s.heap.IsList a vs.toArray := ⟨_, ho, rfl, n, rfl⟩
      refine tail_any hL.typeIs slot_list_getitem.lookup ?_ (subscripted_plain hs _ _)
      by_cases h0 : 0 ≤ k
      · exact wpAny_getItem_list hL h0 (by omega) (by rw [← h5 h0]; simpa using e') ⟨kp_refl s, rv⟩
      · refine wpAny_getItem_list_neg hL (by omega) (by simp only [List.size_toArray]; omega) (by omega) ?_ ⟨kp_refl s, rv⟩
        rw [show (k + (vs.toArray.size : Int)).toNat = j by rw [h6 (by omega)]; simp [hlen]]
        simpa using e'
  · rename_i l k
    simp only [RV] at ro ri
    obtain ⟨a, vs, n, rfl, _, ho, rs, hl⟩ := ro
    obtain ⟨t, rfl⟩ := ri
    cases hj : idxD l.length k with
    | none => rw [hj] at e; cases e
    | some j =>
      rw [hj] at e
      obtain ⟨h1, h2, h3, h4, h5, h6⟩ := idxD_seq hj
      obtain ⟨v, e', rv⟩ := rs.get j d e
      have hlen := rs.length
      have h63 := lim63 hl
      have hL : IsTup s.heap a vs.toArray := ⟨_, ho, rfl, n, rfl⟩
      refine tail_any hL.typeIs slot_tuple_getitem.lookup ?_ (subscripted_plain hs _ _)
      exact PySem.P.getItem_tuple ho (by omega) (by omega) (by simp only [List.size_toArray, hlen]; exact h1) (by simpa using e') ⟨kp_refl s, rv⟩
  · rename_i x k
    simp only [RV] at ro ri
    obtain ⟨u, rfl, hl⟩ := ro
    obtain ⟨t, rfl⟩ := ri
    cases hj : idxD x.length k with
    | none => rw [hj] at e; cases e
    | some j =>
      rw [hj] at e
      obtain ⟨h1, h2, h3, h4, h5, h6⟩ := idxD_seq hj
      have h63 := lim63 hl
      cases hc : x.cps[j]? with
      | none => simp only [Option.bind_some] at e; rw [hc] at e; cases e
      | some c =>
        simp only [Option.bind_some] at e
        rw [hc] at e
        cases e
        refine tail_any (typeIs_str _ _ _) F.slot_str_getitem.lookup ?_ (subscripted_plain hs _ _)
        refine PySem.P.getItem_str (c := c) ?_ ?_ ⟨kp_tok s _, rv_str (by show 1 ≤ lim; decide)⟩
        · simp only [Bool.or_eq_false_iff, decide_eq_false_iff_not]; omega
        · rw [h1]; exact hc
  · rename_i ks vs
    split at e
    rotate_left
    · cases e
    rename_i hkk
    cases hq : lookD ks vs i with
    | none => rw [hq] at e; cases e
    | some r =>
      rw [hq] at e
      simp only [Option.bind_some, id] at e
      subst e
      simp only [RV] at ro
      obtain ⟨a, es, n, rfl, _, hsys, ho, rk, rv, hh⟩ := ro
      cases i with
      | str y =>
        obtain ⟨u, rfl, -⟩ := ri.str_inv
        obtain ⟨f, hm, v, hf, rvv⟩ := dict_str (prog := prog) ho rk rv hh hq
        refine tail_any hm.typeIs slot_dict_getitem.lookup ?_ (subscripted_plain hs _ _)
        exact wpAny_getItem_of (strKind_is prog w y u) hm hf ⟨kp_tok s _, rvv⟩
      | int y =>
        obtain ⟨u, rfl⟩ := ri.int_inv
        obtain ⟨f, hm, v, hf, rvv⟩ := dict_int (prog := prog) ho rk rv hh hq
        refine tail_any hm.typeIs slot_dict_getitem.lookup ?_ (subscripted_plain hs _ _)
        exact wpAny_getItem_of (intKind_is prog w y u) hm hf ⟨kp_tok s _, rvv⟩
      | _ => simp [keyKind] at hkk
  · cases e

theorem part_is {h : Heap} {a : Option D} {v : Value} {x : Option Int} (r : match a with | none => v = .none | some d => RV w h B d v) (e : partD a = some x) : IsPart v x ∧ ∃ y, v = partValue y ∧ y.map (·.1) = x := by
  unfold partD at e
  split at e
  · simp only at r; subst r; cases e; exact ⟨.none, none, rfl, rfl⟩
  · simp only [RV] at r; subst r; cases e; exact ⟨.none, none, rfl, rfl⟩
  · obtain ⟨t, rfl⟩ := r.int_inv; cases e; exact ⟨.int _ t, some (_, t), rfl, rfl⟩
  · cases e

theorem subscripted_slice (l u st : Option Expr) (p : Pos) (o i : Value) : ∃ ops, subscripted (.Slice l u st p) false o i = operate ops (getItem o i) := by
  cases st with
  | none => exact ⟨_, rfl⟩
  | some e => exact ⟨_, rfl⟩

/-- a slice taken, its slice object just made at the heap's end -/
theorem whole_ab {a b n : Nat} (h : b - a = n) (hb : b ≤ n) (hz : ¬ n = 0) : a = 0 ∧ b = n := by
  have hbn : b = n := Nat.le_antisymm hb (h ▸ Nat.sub_le b a)
  refine ⟨?_, hbn⟩
  subst hbn
  cases a with
  | zero => rfl
  | succ a => exact absurd h (Nat.ne_of_lt (Nat.sub_lt (Nat.pos_of_ne_zero hz) (Nat.succ_pos a)))
theorem slice_ok {value : Expr} {l u st : Option Expr} {p : Pos} {o d : D} {vo v1 v2 v3 : Value} {x y z : Option Int} (hB : ∀ b, B b → b < s.heap.objs.size)
    (ro : RV w s.heap B o vo) (h1 : IsPart v1 x ∧ ∃ q, v1 = partValue q ∧ q.map (·.1) = x) (h2 : IsPart v2 y ∧ ∃ q, v2 = partValue q ∧ q.map (·.1) = y) (h3 : IsPart v3 z ∧ ∃ q, v3 = partValue q ∧ q.map (·.1) = z)
    (e : sliceD o x y (z.getD 1) = some d) :
    wpAny (model prog w) A (subscriptTail value (.Slice l u st p) vo (.ref s.heap.objs.size)) (fun v s' => Keeps s s' ∧ RV w s'.heap B d v) (fun _ _ => False)
      { s with heap := s.heap.push { cls := .type "slice", data := .fields #[v1, v2, v3] } } := by
  obtain ⟨ops, hops⟩ := subscripted_slice l u st p vo (.ref s.heap.objs.size)
  have kp := kp_push s { cls := .type "slice", data := .fields #[v1, v2, v3] }
  unfold sliceD at e
  split at e
  rotate_left
  · cases e
  rename_i hpos
  split at e
  · rename_i ld
    cases e
    simp only [RV] at ro
    obtain ⟨a, vs, n, rfl, nb, ho, rs, hl⟩ := ro
    have hL : (s.heap.push { cls := .type "slice", data := .fields #[v1, v2, v3] }).IsList a vs.toArray := ⟨_, kp_heap kp _ _ ho, rfl, n, rfl⟩
    refine tail_any (s := { s with heap := s.heap.push { cls := .type "slice", data := .fields #[v1, v2, v3] } }) hL.typeIs slot_list_getitem.lookup ?_ hops
    refine wpAny_getItem_list_slice hL (Heap.IsSliceOf.new ..) h1.1 h2.1 h3.1 ?_ ?_ ?_
    · rintro rfl; simp at hpos
    · refine ⟨kp_trans kp (kp_push _ _), ?_⟩
      simp only [RV]
      refine ⟨_, cutL vs x y (z.getD 1), 0, rfl, ?_, ?_, (rvs_cut rs x y _).keep (kp_heap (kp_trans kp (kp_push _ _))), ?_⟩
      · intro q
        have hq : (s.heap.push { cls := .type "slice", data := .fields #[v1, v2, v3] }).objs.size < s.heap.objs.size := hB _ q
        rw [Heap.size_push] at hq
        exact Nat.lt_irrefl _ (Nat.lt_of_succ_lt hq)
      · show (Heap.push _ _).get? _ = _
        rw [Heap.get?_push_size _ rfl, slicePick_cut]
      · exact Nat.le_trans (cutL_len ld x y z) hl
    · simp only [List.size_toArray, rs.length]; exact lim_le hl
  · rename_i xs
    split at e
    rotate_left
    · cases e
    rename_i hst
    cases e
    obtain ⟨t, rfl, hl⟩ := ro.str_inv
    obtain ⟨_, q1, rfl, rfl⟩ := h1
    obtain ⟨_, q2, rfl, rfl⟩ := h2
    obtain ⟨_, q3, rfl, rfl⟩ := h3
    refine tail_any (s := { s with heap := s.heap.push { cls := .type "slice", data := .fields #[partValue q1, partValue q2, partValue q3] } }) (typeIs_str _ _ _) F.slot_str_getitem.lookup ?_ hops
    refine wpAny_getItem_str_slice (l := q1) (u := q2) (st := q3) ⟨_, Heap.get?_push_size _ rfl, rfl, rfl⟩ ?_ ?_
    · rw [hst]; rfl
    · have hlen : (cutL xs.cps.toList (q1.map (·.1)) (q2.map (·.1)) ((q3.map (·.1)).getD 1)).length ≤ xs.cps.toList.length := cutL_len _ _ _ _
      have hlen' : xs.cps.toList.length = xs.length := by simp [Str.length]
      have hpick : (slicePicked xs q1 q2 q3).filterMap (xs.cps[·]?) = cutL xs.cps.toList (q1.map (·.1)) (q2.map (·.1)) ((q3.map (·.1)).getD 1) := by
        unfold slicePicked cutL
        rw [hlen']; simp
      unfold sliceMade
      split
      · rename_i hw
        refine ⟨kp, ?_⟩
        simp only [Bool.and_eq_true, beq_iff_eq] at hw
        have hall : cutL xs.cps.toList (q1.map (·.1)) (q2.map (·.1)) ((q3.map (·.1)).getD 1) = xs.cps.toList := by
          have h1 := hw.2
          unfold slicePicked at h1
          rw [hst] at h1 ⊢
          rw [cutL_plain]
          have hh := sliceIdx_eq (q1.map (·.1)) (q2.map (·.1)) none xs.length
          rw [show (none : Option Int).getD 1 = 1 from rfl] at hh
          rw [hh, sliceBounds_plain, sliceRange_one] at h1
          simp only [List.length_map, List.length_range] at h1
          rw [hlen']
          generalize hA : Option.elim (q1.map (·.1)) 0 (clipAt xs.length) = a at h1 ⊢
          generalize hC : Option.elim (q2.map (·.1)) xs.length (clipAt xs.length) = b at h1 ⊢
          have hb : b ≤ xs.length := by
            rw [← hC]
            cases q2 with
            | none => exact Nat.le_refl _
            | some q =>
              show clipAt xs.length q.1 ≤ xs.length
              have := clipAt_cast xs.length q.1
              omega
          by_cases hz : xs.length = 0
          · have hnil : xs.cps.toList = [] := List.length_eq_zero_iff.mp (hlen'.trans hz)
            rw [hnil]; simp
          · obtain ⟨ha0, hbn⟩ := whole_ab h1 hb hz
            subst ha0
            rw [List.drop_zero, List.take_of_length_le (show xs.cps.toList.length ≤ b - 0 from Nat.le_of_eq (hlen'.trans hbn.symm))]
        rw [hall]
        exact rv_str hl
      · rw [hpick]
        refine ⟨?_, kp_trans kp (kp_tok _ _), ?_⟩
        · show (List.toArray _).size ≤ sizeLine
          rw [List.size_toArray]
          exact lim_le (Nat.le_trans hlen (Nat.le_trans (Nat.le_of_eq hlen') hl))
        · exact rv_str (by show (List.toArray _).size ≤ lim; rw [List.size_toArray]; exact Nat.le_trans hlen (Nat.le_trans (Nat.le_of_eq hlen') hl))
  · cases e
end

end Mine

end

section
open PySem PySem.W PyProof.Rows PySem.SeqAt
set_option Elab.async false
namespace Mine

section
variable {prog : Program} {w : World} {A : Around} {s : Shared} {B : Addr → Prop} {N : Nat}

theorem ints_of {h : Heap} : ∀ {l : List D} {xs : List Int} {vs : List Value}, RVs w h B l vs → intsOf l = some xs → ∃ ps : List (Int × Tok), vs = ps.map (fun p => Value.int p.1 p.2) ∧ ps.map (·.1) = xs
  | [], xs, vs, r, e => by obtain rfl := r.nil_inv; cases e; exact ⟨[], rfl, rfl⟩
  | d :: l, xs, vs, r, e => by
    obtain ⟨v, vs', rfl, r1, r2⟩ := r.uncons
    cases d with
    | int i =>
      simp only [intsOf] at e
      cases h' : intsOf l with
      | none => rw [h'] at e; cases e
      | some ys =>
        rw [h'] at e; cases e
        obtain ⟨ps, rfl, rfl⟩ := ints_of r2 h'
        obtain ⟨t, rfl⟩ := r1.int_inv
        exact ⟨(i, t) :: ps, rfl, rfl⟩
    | _ => simp [intsOf] at e
theorem strs_of {h : Heap} : ∀ {l : List D} {xs : List Str} {vs : List Value}, RVs w h B l vs → strsOf l = some xs → StrsAre vs xs
  | [], xs, vs, r, e => by obtain rfl := r.nil_inv; cases e; exact .nil
  | d :: l, xs, vs, r, e => by
    obtain ⟨v, vs', rfl, r1, r2⟩ := r.uncons
    cases d with
    | str x =>
      simp only [strsOf] at e
      cases h' : strsOf l with
      | none => rw [h'] at e; cases e
      | some ys =>
        rw [h'] at e; cases e
        obtain ⟨t, rfl, -⟩ := r1.str_inv
        exact .cons x t (strs_of r2 h')
    | _ => simp [strsOf] at e

theorem minL_of : ∀ (r : List Int) (a m : Int), m ∈ a :: r → (∀ x ∈ a :: r, m ≤ x) → minL a r = m
  | [], a, m, hm, _ => by simp at hm; subst hm; rfl
  | b :: r, a, m, hm, hle => by
    have ha := hle a List.mem_cons_self
    have hb := hle b (List.mem_cons_of_mem _ List.mem_cons_self)
    refine minL_of r (min a b) m ?_ ?_
    · rcases List.mem_cons.mp hm with rfl | hm
      · rw [Int.min_eq_left hb]; exact List.mem_cons_self
      · rcases List.mem_cons.mp hm with rfl | hm
        · rw [Int.min_eq_right ha]; exact List.mem_cons_self
        · exact List.mem_cons_of_mem _ hm
    · intro x hx
      rcases List.mem_cons.mp hx with rfl | hx
      · omega
      · exact hle x (List.mem_cons_of_mem _ (List.mem_cons_of_mem _ hx))
theorem minI_of (xs : List Int) (m : Int) (hm : m ∈ xs) (hle : ∀ x ∈ xs, m ≤ x) : minI xs = some m := by
  cases xs with
  | nil => simp at hm
  | cons a r => rw [minI, minL_of r a m hm hle]

theorem numAt_map (ps : List (Int × Tok)) (i : Nat) (h : i < ps.length) : numAt ps.toArray i = (ps.map (·.1))[i]'(by simpa using h) := by
  simp [numAt, h]

theorem range_size {a b c : Int} (h : rOk a b c = true) : 0 ≤ Builtin.Range.rangeSize a b c ∧ Builtin.Range.rangeSize a b c ≤ 2097152 := by
  obtain ⟨h1, h2, h3, h4⟩ := of_decide_eq_true h
  have hl : lim = 1048576 := rfl
  unfold Builtin.Range.rangeSize
  simp only [gt_iff_lt, h3, if_true]
  split
  · have : (b - a - 1) / c ≤ b - a - 1 := Int.ediv_le_self _ (by omega)
    have : 0 ≤ (b - a - 1) / c := Int.ediv_nonneg (by omega) (by omega)
    omega
  · omega
theorem range_small {a b c : Int} (h : rOk a b c = true) : Builtin.Range.small a b c = true := by
  have hs := range_size h
  obtain ⟨h1, h2, h3, h4⟩ := of_decide_eq_true h
  have hl : lim = 1048576 := rfl
  unfold Builtin.Range.small Builtin.Range.rangeFitsLong
  simp only [gt_iff_lt, h3, if_true, Bool.and_eq_true, Bool.or_eq_true, decide_eq_true_eq]
  refine ⟨⟨⟨⟨?_, ?_⟩, ?_⟩, ?_⟩, .inr ?_⟩ <;> omega
theorem rangeLen_eq {a b c : Int} (h : rOk a b c = true) : Builtin.Range.rangeSize a b c = (rangeLen a b c : Int) := by
  have hs := range_size h
  unfold rangeLen
  omega

theorem lower_ok {x : Str} {t : Tok} (h : x.length ≤ 1000) : Yields prog w A (call (.builtin "str.lower") [.str x t]) s (fun v h => RV w h B (.str (Txt.lower x)) v) := by
  refine SCL.lower (by omega) fun hl => ⟨kp_tok s _, rv_str ?_⟩
  have : (3000 : Nat) ≤ lim := by decide
  omega

theorem glue_fold (xs : List Str) : ∀ a : Array Nat, xs.foldl (fun acc p => acc ++ (#[] : Array Nat) ++ p.cps) a = a ++ (joinS xs).cps := by
  induction xs with
  | nil => intro a; show a = a ++ #[]; simp
  | cons x r ih =>
    intro a
    rw [List.foldl_cons, ih]
    show a ++ #[] ++ x.cps ++ (joinS r).cps = a ++ (x.cps ++ (joinS r).cps)
    simp
theorem join_eq (xs : List Str) : Txt.join ⟨#[]⟩ xs = joinS xs := by
  cases xs with
  | nil => rfl
  | cons x r =>
    show Str.mk (r.foldl (fun acc p => acc ++ (#[] : Array Nat) ++ p.cps) x.cps) = _
    rw [glue_fold]; rfl
theorem joinS_len : ∀ xs : List Str, (joinS xs).length = (xs.map (·.length)).sum
  | [] => rfl
  | x :: r => by
    show (x ++ joinS r).length = _
    rw [Str.length_append, joinS_len r]; simp

/-- a builtin does what its entry says -/
noncomputable def BOk (prog : Program) (w : World) (A : Around) (s : Shared) (B : Addr → Prop) (v : Value) (F : List D → Option D) : Prop :=
  A.handled = none → (∀ b, B b → b < s.heap.objs.size) → ∀ (args : List D) (vs : List Value) (d : D), RVs w s.heap B args vs → F args = some d → Yields prog w A (call v vs) s (fun u h => RV w h B d u)

theorem bLen_ok : BOk prog w A s B (.builtin "len") bLen := by
  intro hh hB args vs d r e
  refine bndE e fun d0 h0 e => ?_
  refine mpdE e fun n hn eqv => ?_; subst eqv
  obtain rfl := sole_inv h0
  obtain ⟨v, rfl, r1⟩ := r.single
  cases d0 with
  | list l =>
    cases hn
    obtain ⟨a, us, n, rfl, _, ho, rs, hl⟩ := r1.list_inv
    rw [← rs.length] at hl ⊢
    exact Calls.call_len_list ⟨_, ho, rfl, n, rfl⟩ (lim63 hl) ⟨kp_tok s _, rv_int⟩
  | tuple l =>
    cases hn
    obtain ⟨a, us, n, rfl, _, ho, rs, hl⟩ := r1.tuple_inv
    rw [← rs.length] at hl ⊢
    exact PySem.P.len_tuple ho (Int.not_le.mpr (lim63 hl)) ⟨kp_tok s _, rv_int⟩
  | str x =>
    cases hn
    obtain ⟨t, rfl, hl⟩ := r1.str_inv
    exact PySem.P.len_str (Int.not_le.mpr (lim63 hl)) ⟨kp_tok s _, rv_int⟩
  | _ => exact nns hn

theorem rv_range {x y z : Int} {t u q : Tok} (hB : ∀ b, B b → b < s.heap.objs.size) (hr : rOk x y z = true) : RV w (s.heap.push { cls := .type "range", data := .fields #[.int x t, .int y u, .int z q] }) B (.range x y z) (.ref s.heap.objs.size) :=
  .mk_range ⟨_, t, u, q, rfl, fun q => Nat.lt_irrefl _ (hB _ q), Heap.get?_push_size _ rfl, hr⟩
theorem step_small {x y z : Int} (hr : rOk x y z = true) : z.natAbs < 1073741824 := by
  have h := (of_decide_eq_true hr).2.2
  exact Nat.lt_of_le_of_lt (Int.ofNat_le.mp ((Int.natAbs_of_nonneg (Int.le_of_lt h.1)).symm ▸ h.2)) (by decide)
theorem bRange_ok : BOk prog w A s B (.type "range") bRange := by
  intro hh hB args vs d r e
  refine bndE e fun l hl e => ?_
  refine bndE e fun q hq e => ?_
  refine ifsE e fun hr e => ?_
  cases e
  obtain ⟨ps, rfl, rfl⟩ := ints_of r hl
  cases ps with
  | nil => exact nns hq
  | cons p ps => cases ps with
    | nil => cases hq; exact call_range_1 ⟨kp_mk (kp_heap (kp_push s _)), rv_range hB hr⟩
    | cons p' ps => cases ps with
      | nil => cases hq; exact call_range_2 ⟨kp_mk (kp_heap (kp_push s _)), rv_range hB hr⟩
      | cons p'' ps => cases ps with
        | nil =>
          cases hq
          exact call_range_3 (Int.ne_of_gt (of_decide_eq_true hr).2.2.1) ⟨kp_mk (kp_heap (kp_push s _)), rv_range hB hr⟩ (Or.inl (PyProof.noPylong_small (step_small hr)))
        | cons => exact nns hq

theorem rangeL_len (a b c : Int) : ((rangeL a b c).map D.int).length = rangeLen a b c := (List.length_map _).trans ((List.length_map _).trans List.length_range)
/-- a list just made -/
inductive MadeL (w : World) (sz : Addr) (d : D) (v : Value) (h : Heap) : Prop where
  | mk (l : List D) (xs : List Value) (c : Nat) : d = .list l → v = .ref sz → IsL h sz xs.toArray c → (∀ B, RVs w h B l xs) → l.length ≤ lim → MadeL w sz d v h
theorem MadeL.rv {sz : Addr} {d : D} {v : Value} {h : Heap} (hB : ¬ B sz) : MadeL w sz d v h → RV w h B d v
  | ⟨_, xs, c, e, ev, hl, rs, hn⟩ => e ▸ .mk_list ⟨_, xs, c, ev, hB, hl, rs B, hn⟩
theorem bList_made (hh : A.handled = none) {args : List D} {vs : List Value} {d : D} (r : RVs w s.heap B args vs) (e : bList args = some d) : Yields prog w A (call (.type "list") vs) s (MadeL w s.heap.objs.size d) := by
  refine bndE e fun d0 h0 e => ?_
  refine bndE e fun q hq e => ?_
  refine ifsE e fun hlen e => ?_
  cases e
  obtain rfl := sole_inv h0
  obtain rfl := asRange_inv hq
  obtain ⟨v, rfl, r1⟩ := r.single
  obtain ⟨a, t, u, p, rfl, _, ho, hr⟩ := r1.range_inv
  have hL := rangeL_len q.1 q.2.1 q.2.2
  refine call_list_range hh ho (range_small hr) (rangeLen_eq hr) (Nat.le_trans hlen (by decide)) fun h' tk acc' c' hk ha hi => ⟨kp_mk hk, _, acc'.toList, c', rfl, rfl, by simpa using ha, fun B => ?_, hL ▸ hlen⟩
  refine RVs.ofGet (hi.1.trans hL.symm) fun i d v e1 e2 => ?_
  rw [List.getElem?_map] at e1
  refine mpdE e1 fun z hz eqv => ?_; subst eqv
  unfold rangeL at hz
  rw [List.getElem?_map] at hz
  refine mpdE hz fun j hj eqv => ?_; subst eqv
  obtain ⟨_, hj⟩ := List.getElem?_eq_some_iff.mp hj
  rw [List.getElem_range] at hj
  subst hj
  obtain ⟨t', rfl⟩ := hi.2 i v (by simpa using e2)
  exact rv_int
theorem bList_ok : BOk prog w A s B (.type "list") bList := fun hh hB _ _ _ r e => (bList_made hh r e).mono fun _ _ _ q => q.rv fun q => Nat.lt_irrefl _ (hB _ q)

theorem numAt_get {ps : List (Int × Tok)} {i : Nat} {h : i < (ps.map (·.1)).length} : numAt ps.toArray i = (ps.map (·.1))[i] := by
  rw [List.length_map] at h; exact numAt_map ps i h
theorem least_of (ps : List (Int × Tok)) (hne : 0 < ps.length) : argBest (fun i j => decide (numAt ps.toArray i < numAt ps.toArray j)) (ps.toArray.size - 1) < ps.length ∧ minI (ps.map (·.1)) = some (numAt ps.toArray (argBest (fun i j => decide (numAt ps.toArray i < numAt ps.toArray j)) (ps.toArray.size - 1))) := by
  obtain ⟨hb1, hb2⟩ := argBest_lt (numAt ps.toArray) (ps.toArray.size - 1)
  have hs : ps.toArray.size - 1 + 1 = ps.length := Nat.sub_add_cancel hne
  have hjl := Nat.lt_of_le_of_lt hb1 (Nat.sub_lt hne Nat.one_pos)
  refine ⟨hjl, minI_of _ _ ?_ fun x hx => ?_⟩
  · rw [numAt_map ps _ hjl]; exact List.getElem_mem _
  · obtain ⟨i, hi', rfl⟩ := List.mem_iff_getElem.mp hx
    have := hb2 i (Nat.le_of_lt_succ (by rw [Nat.succ_eq_add_one, hs]; rwa [List.length_map] at hi'))
    rwa [numAt_get (h := hi')] at this
theorem bMin_ok : BOk prog w A s B (.builtin "min") bMin := by
  intro hh hB args vs d r e
  rcases ifp e with ⟨_, e⟩ | ⟨_, e⟩
  · refine bndE e fun d0 h0 e => ?_
    refine bndE e fun l hl e => ?_
    refine bndE e fun xs hi e => ?_
    refine mpdE e fun m hm eqv => ?_; subst eqv
    obtain rfl := sole_inv h0
    obtain rfl := asList_inv hl
    obtain ⟨v, rfl, r1⟩ := r.single
    obtain ⟨a, us, n, rfl, _, ho, rs, hl⟩ := r1.list_inv
    obtain ⟨ps, rfl, rfl⟩ := ints_of rs hi
    have hne : 0 < ps.length := by
      cases ps with
      | nil => exact nns hm
      | cons p r => exact Nat.succ_pos _
    obtain ⟨_, h2⟩ := least_of ps hne
    refine min_intList (xs := ps.toArray) hh ⟨_, ho, rfl, n, by simp [intItems]⟩ hne fun v h' tk hv hk => ⟨kp_mk hk, ?_⟩
    obtain ⟨t', rfl⟩ := intItems_at hv
    rw [h2] at hm; cases hm
    exact rv_int
  · refine bndE e fun q hq e => ?_
    refine bndE e fun a ha e => ?_
    refine bndE e fun b hb e => ?_
    cases e
    obtain rfl := duo_inv hq
    rw [asInt_inv ha, asInt_inv hb] at r
    obtain ⟨v, v', rfl, r1, r2⟩ := r.double
    obtain ⟨t, rfl⟩ := r1.int_inv
    obtain ⟨u, rfl⟩ := r2.int_inv
    refine min_two_ints hh fun h' tk hk => ⟨kp_mk hk, ?_⟩
    split
    · rw [Int.min_eq_right (Int.le_of_lt (by assumption))]; exact rv_int
    · rw [Int.min_eq_left (Int.not_lt.mp (by assumption))]; exact rv_int
theorem bSum_ok : BOk prog w A s B (.builtin "sum") bSum := by
  intro hh hB args vs d r e
  refine bndE e fun d0 h0 e => ?_
  refine bndE e fun l hl e => ?_
  refine mpdE e fun xs hi eqv => ?_; subst eqv
  obtain rfl := sole_inv h0
  obtain rfl := asList_inv hl
  obtain ⟨v, rfl, r1⟩ := r.single
  obtain ⟨a, us, n, rfl, _, ho, rs, hl⟩ := r1.list_inv
  obtain ⟨ps, rfl, rfl⟩ := ints_of rs hi
  refine sum_intListG (xs := ps.toArray) hh ⟨_, ho, rfl, n, by simp [intItems]⟩ fun h' tk t' hk => ⟨kp_mk hk, ?_⟩
  have hs : (List.take ps.toArray.size (ps.map (·.1))).sum = (ps.map (·.1)).sum := congrArg List.sum (List.take_of_length_le (Nat.le_of_eq (List.length_map _)))
  rw [preSum_eq, ← hs]
  exact rv_int
theorem b_ok : ∀ p ∈ bTab, BOk prog w A s B p.2.1 p.2.2 :=
  List.forall_mem_cons.mpr ⟨bLen_ok, List.forall_mem_cons.mpr ⟨bRange_ok, List.forall_mem_cons.mpr ⟨bList_ok, List.forall_mem_cons.mpr ⟨bMin_ok, List.forall_mem_cons.mpr ⟨bSum_ok,
  fun _ h => nomatch h
  ⟩⟩⟩⟩⟩
noncomputable def isBT (v : Value) : Prop := (∃ T, v = .type T) ∨ ∃ id, v = .builtin id
theorem b_boot : ∀ p ∈ bTab, bootBuiltins p.1 = some p.2.1 ∧ isBT p.2.1 :=
  List.forall_mem_cons.mpr ⟨⟨by kernel_rfl, .inr ⟨_, rfl⟩⟩, List.forall_mem_cons.mpr ⟨⟨by kernel_rfl, .inl ⟨_, rfl⟩⟩, List.forall_mem_cons.mpr ⟨⟨by kernel_rfl, .inl ⟨_, rfl⟩⟩, List.forall_mem_cons.mpr ⟨⟨by kernel_rfl, .inr ⟨_, rfl⟩⟩, List.forall_mem_cons.mpr ⟨⟨by kernel_rfl, .inr ⟨_, rfl⟩⟩,
  fun _ h => nomatch h
  ⟩⟩⟩⟩⟩
theorem b_names : ∀ p ∈ bTab, p.1 ∈ bnames := by decide
theorem callB_boot {f : Str} {args : List D} {d : D} (e : callB f args = some d) : f ∈ bnames ∧ ∃ fv, bootBuiltins f = some fv ∧ isBT fv := by
  refine bndE e fun q hq _ => ?_
  exact ⟨b_names _ (mem_of_lookup hq), q.1, b_boot _ (mem_of_lookup hq)⟩
theorem callB_ok {f : Str} {fv : Value} {args : List D} {vs : List Value} {d : D} (hh : A.handled = none) (hB : ∀ b, B b → b < s.heap.objs.size) (hb : bootBuiltins f = some fv) (r : RVs w s.heap B args vs) (e : callB f args = some d) :
    Yields prog w A (call fv vs) s (fun v h => RV w h B d v) := by
  refine bndE e fun q hq e => ?_
  have hm := mem_of_lookup hq
  obtain rfl : q.1 = fv := Option.some.inj ((b_boot _ hm).1.symm.trans hb)
  exact b_ok _ hm hh hB args vs d r e

theorem first_at : ∀ (xs : List Int) (i : Int) (j : Nat), firstAt xs i = some j → i ∈ xs ∧ xs.idxOf i = j
  | [], i, j, e => by simp [firstAt] at e
  | x :: r, i, j, e => by
    unfold firstAt at e
    split at e
    · rename_i hx; cases e; subst hx; simp
    · rename_i hx
      cases h : firstAt r i with
      | none => rw [h] at e; cases e
      | some k =>
        rw [h] at e; cases e
        obtain ⟨h1, h2⟩ := first_at r i k h
        refine ⟨List.mem_cons_of_mem _ h1, ?_⟩
        rw [List.idxOf_cons, h2]
        have : (x == i) = false := by simpa using hx
        rw [this]; rfl
/-- a method's entry: what is plain of it -/
structure MPlain (f : Str) (q : Mth) : Prop where
  pa : PlainAttrs q.ty
  sl : Slot q.ty f q.id
  ty : typeOf (.builtin q.id) = pure (.type "method_descriptor")
/-- a value as a method's owner -/
noncomputable def OwnTy (s : Shared) (T : String) (vo : Value) : Prop := s.TypeIs vo T ∧ ∀ a, vo = .ref a → ∃ ob, s.heap.get? a = some ob ∧ ob.dict = none
noncomputable def MOk (prog : Program) (w : World) (A : Around) (s : Shared) (B : Addr → Prop) (q : Mth) : Prop :=
  ∀ (o : D) (vo : Value) (args : List D) (d : D), RV w s.heap B o vo → q.F o args = some d → OwnTy s q.ty vo ∧
    ∀ (vs : List Value), (∀ b, B b → b < s.heap.objs.size) → RVs w s.heap B args vs → Yields prog w A (call (.builtin q.id) (vo :: vs)) s (fun v h => RV w h B d v)
theorem own_str {x : Str} {t : Tok} : OwnTy s "str" (.str x t) := ⟨typeIs_str s _ _, fun _ h => nomatch h⟩
theorem mJoin_ok : MOk prog w A s B ⟨"str", "str.join", mJoin⟩ := by
  intro o vo args d ro e
  refine bndE e fun sep h0 e => ?_
  refine bndE e fun d1 h1 e => ?_
  refine bndE e fun l h2 e => ?_
  refine ifsE e fun hs e => ?_
  refine bndE e fun xs hi e => ?_
  refine ifsE e fun hlen e => ?_
  cases e
  obtain rfl := asStr_inv h0
  obtain rfl := sole_inv h1
  obtain rfl := asList_inv h2
  obtain ⟨t, rfl, _⟩ := ro.str_inv
  refine ⟨own_str, fun vs _ r => ?_⟩
  obtain ⟨v, rfl, r1⟩ := r.single
  obtain ⟨a, us, n, rfl, _, ho, rs, hl⟩ := r1.list_inv
  obtain ⟨⟨sp⟩⟩ := sep
  obtain rfl : sp = [] := List.length_eq_zero_iff.mp hs
  refine join_list (items := us.toArray) (ys := xs) ⟨_, ho, rfl, n, rfl⟩ (strs_of rs hi) ?_ fun t' k => ⟨kp_tok s _, ?_⟩
  · show _ + xs.length * 0 ≤ _
    rw [← joinS_len]
    exact Nat.le_trans hlen (by decide)
  · rw [join_eq]; exact rv_str hlen
theorem mLower_ok : MOk prog w A s B ⟨"str", "str.lower", mLower⟩ := by
  intro o vo args d ro e
  refine bndE e fun x h0 e => ?_
  refine ifsE e fun pat0 e => ?_; obtain ⟨ha, hs⟩ := pat0
  cases e
  obtain rfl := asStr_inv h0
  obtain rfl := emp ha
  obtain ⟨t, rfl, _⟩ := ro.str_inv
  refine ⟨own_str, fun vs _ r => ?_⟩
  obtain rfl := r.nil_inv
  exact lower_ok hs
theorem vals_strs : ∀ (ps : List Str) (k : Nat), (ps.all fun p => decide (p.length ≤ lim)) = true → ∀ h, RVs w h B (ps.map .str) (strValues (numbered k ps))
  | [], _, _, _ => .nil
  | p :: ps, k, hh, h => by
    obtain ⟨h1, h2⟩ := Bool.and_eq_true_iff.mp hh
    exact .cons (rv_str (of_decide_eq_true h1)) (vals_strs ps (k + 1) h2 h)
theorem mSplit_ok : MOk prog w A s B ⟨"str", "str.split", mSplit⟩ := by
  intro o vo args d ro e
  refine bndE e fun x h0 e => ?_
  refine bndE e fun d1 h1 e => ?_
  refine bndE e fun y h2 e => ?_
  refine ifsE e fun hs e => ?_
  refine bndE e fun ps hps e => ?_
  refine ifsE hps fun hc hps => ?_
  refine ifsE e fun hp e => ?_
  cases e
  obtain rfl := asStr_inv h0
  obtain rfl := sole_inv h1
  obtain rfl := asStr_inv h2
  obtain ⟨t, rfl, _⟩ := ro.str_inv
  refine ⟨own_str, fun vs hB r => ?_⟩
  obtain ⟨v, rfl, r1⟩ := r.single
  obtain ⟨u, rfl, _⟩ := r1.str_inv
  cases hps
  refine call_meets F.slot_str_split (typeIs_str _ _ _) F.entry_str_split (F.args_str_split_2 _ _) (meets_str_split_sep x y t u hc.1 hc.2.1 hc.2.2 (lim_le hs) (lim_le hp.1)) ?_
  refine ⟨kp_mk (kp_heap (kp_push s _)), .mk_list ⟨_, strsFrom s.toks _, 0, rfl, fun q => Nat.lt_irrefl _ (hB _ q), Heap.get?_push_size _ rfl, ?_, by rw [List.length_map]; exact hp.1⟩⟩
  rw [strsFrom_eq]
  exact vals_strs _ _ hp.2 _
theorem mIndex_ok : MOk prog w A s B ⟨"list", "list.index", mIndex⟩ := by
  intro o vo args d ro e
  refine bndE e fun l h0 e => ?_
  refine bndE e fun d1 h1 e => ?_
  refine bndE e fun i h2 e => ?_
  refine bndE e fun xs hi e => ?_
  refine mpdE e fun j hj eqv => ?_; subst eqv
  obtain rfl := asList_inv h0
  obtain rfl := sole_inv h1
  obtain rfl := asInt_inv h2
  obtain ⟨a, us, n, rfl, _, ho, rs, hl⟩ := ro.list_inv
  refine ⟨⟨⟨_, ho, rfl⟩, fun b hb => by cases hb; exact ⟨_, ho, rfl⟩⟩, fun vs hB r => ?_⟩
  obtain ⟨v, rfl, r1⟩ := r.single
  obtain ⟨t, rfl⟩ := r1.int_inv
  obtain ⟨h1, h2⟩ := first_at xs i j hj
  obtain ⟨ps, rfl, rfl⟩ := ints_of rs hi
  have hjl : j < ps.length := by rw [← h2]; simpa using List.idxOf_lt_length_of_mem h1
  have hlen := rs.length
  have h63 := lim63 hl
  have hsz : (List.map (fun p : Int × Tok => Value.int p.1 p.2) ps).toArray.size = ps.length := by simp
  refine call_meets F.slot_list_index ⟨_, ho, rfl⟩ F.entry_list_index (F.args_list_index_2 _ _)
    (list_indexAt a _ n none #[] (.int i t) (Value.isInt i) j (by rw [hsz]; exact hjl) (by simp at hlen; omega) ?_ ?_) ⟨ho, fun y hy => ?_, kp_tok s _, rv_int⟩
  · simp only [List.getElem_toArray, List.getElem_map, Value.isInt]
    have : (ps.map (·.1))[(ps.map (·.1)).idxOf i]'(List.idxOf_lt_length_of_mem h1) = i := List.getElem_idxOf _
    simp only [h2] at this
    simpa using this
  · intro m hm hmj
    simp only [List.getElem_toArray, List.getElem_map, Value.isInt]
    have hml : m < (ps.map (·.1)).length := by simp at hm; simpa using hm
    have : (ps.map (·.1))[m] ≠ i := by
      have := List.not_of_lt_findIdx (p := (· == i)) (xs := ps.map (·.1)) (i := m) (by rw [← List.idxOf, h2]; exact hmj)
      simpa using this
    simpa using this
  · obtain ⟨p, hp, rfl⟩ : ∃ p ∈ ps, Value.int p.1 p.2 = y := by simpa using hy
    exact (MeetsSeq.EqGives.int _ _ _ _).at _ _
theorem m_ok : ∀ p ∈ mTab, MOk prog w A s B p.2 :=
  List.forall_mem_cons.mpr ⟨mJoin_ok, List.forall_mem_cons.mpr ⟨mLower_ok,
  List.forall_mem_cons.mpr ⟨mSplit_ok, List.forall_mem_cons.mpr ⟨mIndex_ok,
  fun _ h => nomatch h
  ⟩⟩
  ⟩⟩
theorem m_plain : ∀ p ∈ mTab, MPlain p.1 p.2 :=
  List.forall_mem_cons.mpr ⟨⟨F.plainAttrs_str, F.slot_str_join, by show builtinType _ = _; rw [builtinType_eq_fast]; kernel_rfl⟩, List.forall_mem_cons.mpr ⟨⟨F.plainAttrs_str, F.slot_str_lower, by show builtinType _ = _; rw [builtinType_eq_fast]; kernel_rfl⟩,
  List.forall_mem_cons.mpr ⟨⟨F.plainAttrs_str, F.slot_str_split, by show builtinType _ = _; rw [builtinType_eq_fast]; kernel_rfl⟩, List.forall_mem_cons.mpr ⟨⟨F.plainAttrs_list, F.slot_list_index, by show builtinType _ = _; rw [builtinType_eq_fast]; kernel_rfl⟩,
  fun _ h => nomatch h
  ⟩⟩
  ⟩⟩

theorem isinst_ok {t : Str} {tv : Value} {d : D} {v : Value} {b : Bool} (hb : bootBuiltins t = some tv) (r : RV w s.heap B d v) (e : typeD t d = some b) :
    Yields prog w A (call (.builtin "isinstance") [v, tv]) s (fun u h => RV w h B (.bool b) u) := by
  have hi : bootBuiltins (Str.ofString "int") = some (.type "int") := by kernel_rfl
  have hbo : bootBuiltins (Str.ofString "bool") = some (.type "bool") := by kernel_rfl
  cases d with
  | int i =>
    obtain ⟨u, rfl⟩ := r.int_inv
    simp only [typeD] at e
    split at e
    · rename_i ht; subst ht; rw [hi] at hb; cases hb; cases e
      exact IsiPair.int_int ⟨kp_refl s, rv_bool⟩
    · split at e
      · rename_i ht; subst ht; rw [hbo] at hb; cases hb; cases e
        exact IsiPair.int_bool ⟨kp_tok s _, rv_bool⟩
      · cases e
  | bool c =>
    simp only [RV] at r; subst r
    simp only [typeD] at e
    split at e
    · rename_i ht; subst ht; rw [hi] at hb; cases hb; cases e
      exact IsiPair.bool_int ⟨kp_refl s, rv_bool⟩
    · split at e
      · rename_i ht; subst ht; rw [hbo] at hb; cases hb; cases e
        exact IsiPair.bool_bool ⟨kp_refl s, rv_bool⟩
      · cases e
  | _ => cases e
end
end Mine

end

section
open PySem PySem.W PyProof.Rows PySem.SeqAt
set_option Elab.async false
namespace Mine

/-- all but X is kept -/
noncomputable def KBut (X : Addr → Prop) (s s' : Shared) : Prop := ∃ h' tk, s' = { s with heap := h', toks := tk } ∧ ∀ b o, ¬ X b → s.heap.get? b = some o → h'.get? b = some o
theorem kb_refl (X : Addr → Prop) (s : Shared) : KBut X s s := ⟨s.heap, s.toks, rfl, fun _ _ _ e => e⟩
theorem kb_trans {X : Addr → Prop} {s s' s'' : Shared} (a : KBut X s s') (b : KBut X s' s'') : KBut X s s'' := by
  obtain ⟨h1, t1, rfl, k1⟩ := a
  obtain ⟨h2, t2, rfl, k2⟩ := b
  exact ⟨h2, t2, rfl, fun x o n e => k2 x o n (k1 x o n e)⟩
theorem kb_heap {X : Addr → Prop} {s s' : Shared} (a : KBut X s s') : ∀ b o, ¬ X b → s.heap.get? b = some o → s'.heap.get? b = some o := by
  obtain ⟨h1, t1, rfl, k1⟩ := a
  exact k1
theorem kb_of {X : Addr → Prop} {s s' : Shared} (a : Keeps s s') : KBut X s s' := by
  obtain ⟨h1, t1, rfl, k1⟩ := a
  exact ⟨h1, t1, rfl, fun b o _ e => k1 b o e⟩
theorem kb_mono {X Y : Addr → Prop} {s s' : Shared} (a : KBut X s s') (h : ∀ b, X b → Y b) : KBut Y s s' := by
  obtain ⟨h1, t1, rfl, k1⟩ := a
  exact ⟨h1, t1, rfl, fun b o n e => k1 b o (fun x => n (h b x)) e⟩
theorem kb_same {X : Addr → Prop} {s s' : Shared} (a : KBut X s s') : ∃ h' tk, s' = { s with heap := h', toks := tk } := let ⟨h, t, e, _⟩ := a; ⟨h, t, e⟩

/-- an iterator at I that hands out the items l -/
structure Src (prog : Program) (w : World) (A : Around) (Ban : Addr → Prop) (I : Addr) (wr : List Addr) (l : List D) (St : Nat → Heap → Prop) : Prop where
  frame : ∀ i h h' (X : Addr → Prop), St i h → (∀ b, X b → Ban b ∧ b ∉ wr) → (∀ b o, ¬ X b → h.get? b = some o → h'.get? b = some o) → St i h'
  item : ∀ i (d : D) (t : Expr) (s : Shared) (E : Value → Shared → Prop) (Q : Option Value → Shared → Prop), tgtOk t d = true → l[i]? = some d → St i s.heap →
    (∀ v s₁, (∀ (E' : Value → Shared → Prop) (Q' : Unit → Shared → Prop), (∀ s₂, KBut (· ∈ wr) s s₂ → St (i + 1) s₂.heap → RV w s₂.heap (fun b => Ban b ∧ ∃ o, s.heap.get? b = some o) d v → Q' () s₂) → wpAny (model prog w) A (letOwnedTupleGo t (.ref I) v) Q' E' s₁) → Q (some v) s₁) →
    wpAny (model prog w) A (pyNext (.ref I)) Q E s
  done : ∀ (s : Shared) (E : Value → Shared → Prop) (Q : Option Value → Shared → Prop), St l.length s.heap → (∀ s₁, KBut (· ∈ wr) s s₁ → Q none s₁) → wpAny (model prog w) A (pyNext (.ref I)) Q E s
  self : ∀ i (s : Shared) (E : Value → Shared → Prop) (Q : Value → Shared → Prop), St i s.heap → Q (.ref I) s → wpAny (model prog w) A (pyIter (.ref I)) Q E s
  ex : ∀ i h, St i h → ∀ b ∈ wr, ∃ o, h.get? b = some o

noncomputable def ownNames : List String := ["enumerate", "zip", "dict_itemiterator", "dict_reverseitemiterator", "odict_iterator", "itertools.zip_longest", "itertools.pairwise"]
theorem go_plain {prog : Program} {w : World} {A : Around} {s : Shared} {E : Value → Shared → Prop} {t : Expr} {I : Addr} {v : Value} {o : Obj} {T : String} {Q : Unit → Shared → Prop}
    (ho : s.heap.get? I = some o) (hc : o.cls = .type T) (hT : ownNames.contains T = false) (hQ : Q () s) : wpAny (model prog w) A (letOwnedTupleGo t (.ref I) v) Q E s := by
  have key : wpAny (model prog w) A (do
      let o ← load I
      match o.cls, o.data with
      | .type n, .fields vs =>
        if ownNames.contains n && vs[0]? == some (rawInt 0) then
          rule "for.unpacks-the-owned-tuple"
          updateField I 0 .none
      | _, _ => pure ()) (fun _ _ => True) (fun _ _ => True) s → True := fun _ => trivial
  cases t with
  | Tuple es k p =>
    cases v with
    | ref a =>
      unfold letOwnedTupleGo
      refine wpAny_bind (wpAny_load ho ?_)
      rw [hc]
      split
      · rename_i n vs h1 h2
        cases h1
        rw [if_neg (by
          intro h
          have : ownNames.contains T = true := by
            simp only [Bool.and_eq_true] at h
            exact h.1
          rw [hT] at this; cases this)]
        exact wpAny_pure hQ
      · exact wpAny_pure hQ
    | _ => exact wpAny_pure hQ
  | List es p =>
    cases v with
    | ref a =>
      unfold letOwnedTupleGo
      refine wpAny_bind (wpAny_load ho ?_)
      rw [hc]
      split
      · rename_i n vs h1 h2
        cases h1
        rw [if_neg (by
          intro h
          have : ownNames.contains T = true := by
            simp only [Bool.and_eq_true] at h
            exact h.1
          rw [hT] at this; cases this)]
        exact wpAny_pure hQ
      · exact wpAny_pure hQ
    | _ => exact wpAny_pure hQ
  | _ => exact wpAny_pure hQ

/-- from the library's walks -/
theorem Src.ofWalks {prog : Program} {w : World} {A : Around} {Ban : Addr → Prop} {I : Addr} {fp : List Addr} {n : Nat} {l : List D} {P : Nat → Value → Prop} {St : Nat → Heap → Prop} {Inv : Heap → Prop} {T : String}
    (W : Walks prog w A I fp [I] n P St) (hn : n = l.length) (hT : ownNames.contains T = false) (hI : Ban I) (hfp : ∀ b ∈ fp, b ≠ I → ¬ Ban b)
    (hcls : ∀ i h, St i h → ∃ o, h.get? I = some o ∧ o.cls = .type T)
    (hinv : ∀ h h', Inv h → (∀ b o, ¬ Ban b → h.get? b = some o → h'.get? b = some o) → Inv h')
    (hitem : ∀ i d v h, l[i]? = some d → P i v → Inv h → RV w h Ban d v) :
    Src prog w A Ban I [I] l (fun i h => St i h ∧ Inv h) where
  frame := fun i h h' X st hX hk => ⟨W.frame i h h' st.1 fun b hb o e => hk b o (fun x => by
      by_cases hbI : b = I
      · exact (hX b x).2 (by simp [hbI])
      · exact hfp b hb hbI (hX b x).1) e, hinv h h' st.2 fun b o nb e => hk b o (fun x => nb (hX b x).1) e⟩
  item := fun i d t s E Q _ hd st hQ => by
    have hi : i < n := by rw [hn]; exact (List.getElem?_eq_some_iff.mp hd).1
    refine W.item i s Q E hi st.1 fun v h' tk hP st' hk => hQ v _ fun E' Q' hQ' => ?_
    obtain ⟨o, ho, hc⟩ := hcls (i + 1) h' st'
    refine go_plain ho hc hT (hQ' _ ⟨h', tk, rfl, fun b o nb e => hk b o (fun hb => nb hb) e⟩ ⟨st', ?_⟩ ?_)
    · exact hinv _ _ st.2 fun b o nb e => hk b o (fun hb => nb (by simp at hb; rw [hb]; exact hI)) e
    · refine RV.less (B := Ban) ?_ (fun b hb => hb.1)
      exact hitem i d v h' hd hP (hinv _ _ st.2 fun b o nb e => hk b o (fun hb => nb (by simp at hb; rw [hb]; exact hI)) e)
  done := fun s E Q st hQ => W.done s Q E (by rw [hn]; exact st.1) fun h' tk hk => hQ _ ⟨h', tk, rfl, fun b o nb e => hk b o (fun hb => nb hb) e⟩
  self := fun i s E Q st hQ => W.self i s Q E st.1 hQ
  ex := fun i h st b hb => by
    obtain ⟨o, ho, _⟩ := hcls i h st.1
    simp at hb
    exact ⟨o, hb ▸ ho⟩

section
variable {prog : Program} {w : World} {A : Around} {s : Shared} {B : Addr → Prop} {N : Nat}

theorem pairs_of {K : Type} [DecidableEq K] {knd : KeyKind prog w K} {f : K → D} (hf : ∀ k v h, RV w h B (f k) v → knd.is k v = true) {h : Heap} : ∀ (xs : List K) (es : List DictEntry), RVs w h B (xs.map f) (es.map (·.key)) → Pairs knd es (xs.zip (es.map (·.val)))
  | [], es, r => by
    have := r.length; simp at this; subst this; exact .nil
  | x :: xs, [], r => by have := r.length; simp at this
  | x :: xs, e :: es, r => by
    rw [List.map_cons] at r
    obtain ⟨v, vs', he, r1, r2⟩ := r.uncons
    rw [List.map_cons] at he; cases he
    rw [List.map_cons, List.zip_cons_cons]
    exact .cons (hf x _ h r1) rfl (pairs_of hf xs es r2)

/-- iterating a datum -/
theorem iter_ok {d : D} {v : Value} {l : List D} {E : Value → Shared → Prop} {Q : Value → Shared → Prop} (hh : A.handled = none) (r : RV w s.heap B d v) (e : itemsD d = some l)
    (hQ : ∀ I o (St : (Addr → Prop) → Nat → Heap → Prop), I = s.heap.objs.size →
      (∀ Ban : Addr → Prop, Ban I → (∀ b, Ban b → B b ∨ s.heap.get? b = none) → Src prog w A Ban I [I] l (St Ban) ∧ St Ban 0 (s.heap.push o)) → Q (.ref I) { s with heap := s.heap.push o }) :
    wpAny (model prog w) A (pyIter v) Q E s := by
  have notBan : ∀ (Ban : Addr → Prop), (∀ b, Ban b → B b ∨ s.heap.get? b = none) → ∀ a o, ¬ B a → s.heap.get? a = some o → ¬ Ban a := by
    intro Ban hBan a o nb ho hb
    rcases hBan a hb with h | h
    · exact nb h
    · rw [ho] at h; cases h
  have up : ∀ (Ban : Addr → Prop), (∀ b, Ban b → B b ∨ s.heap.get? b = none) → ∀ (o : Obj) b o', ¬ B b → s.heap.get? b = some o' → (s.heap.push o).get? b = some o' ∧ ¬ Ban b := by
    intro Ban hBan o b o' nb ho
    exact ⟨Heap.get?_push_of_some _ ho, notBan Ban hBan b o' nb ho⟩
  cases d with
  | list xs =>
    cases e
    simp only [RV] at r
    obtain ⟨a, vs, n, rfl, nb, ho, rs, hl⟩ := r
    have hne : a ≠ s.heap.objs.size := Nat.ne_of_lt (Heap.lt_size ho)
    refine wpAny_pyIter_list ⟨_, ho, rfl, n, rfl⟩ (hQ _ _ (fun Ban i h => (h.IsListIter s.heap.objs.size a i ∧ h.IsList a vs.toArray) ∧ RVs w h Ban l vs) rfl fun Ban hI hBan => ⟨?_, ?_⟩)
    · refine Src.ofWalks (T := "list_iterator") (Walks.list hh _ a hne vs.toArray) (by simp [rs.length]) (by decide) hI ?_ ?_ ?_ ?_
      · intro b hb hbI
        simp at hb
        rcases hb with rfl | rfl
        · exact absurd rfl hbI
        · exact notBan Ban hBan _ _ nb ho
      · intro i h st; obtain ⟨⟨o, h1, h2, h3⟩, _⟩ := st; exact ⟨o, h1, h2⟩
      · intro h h' inv hk; exact RVs.step (fun b o nb e => ⟨hk b o nb e, nb⟩) _ _ inv
      · intro i d v h hd hP inv
        obtain ⟨v', hv', rv⟩ := inv.get i d hd
        have : vs[i]? = some v := by simpa using hP
        rw [this] at hv'; cases hv'; exact rv
    · exact ⟨⟨⟨_, Heap.get?_push_size _ rfl, rfl, rfl⟩, ⟨_, Heap.get?_push_of_some _ ho, rfl, n, rfl⟩⟩, RVs.step (up Ban hBan _) _ _ rs⟩
  | tuple xs =>
    cases e
    simp only [RV] at r
    obtain ⟨a, vs, n, rfl, nb, ho, rs, hl⟩ := r
    have hne : a ≠ s.heap.objs.size := Nat.ne_of_lt (Heap.lt_size ho)
    refine wpAny_pyIter_tuple ⟨_, ho, rfl, n, rfl⟩ (hQ _ _ (fun Ban i h => (h.IsTupleIter s.heap.objs.size a i ∧ h.IsTuple a vs.toArray) ∧ RVs w h Ban l vs) rfl fun Ban hI hBan => ⟨?_, ?_⟩)
    · refine Src.ofWalks (T := "tuple_iterator") (Walks.tuple hh _ a hne vs.toArray) (by simp [rs.length]) (by decide) hI ?_ ?_ ?_ ?_
      · intro b hb hbI
        simp at hb
        rcases hb with rfl | rfl
        · exact absurd rfl hbI
        · exact notBan Ban hBan _ _ nb ho
      · intro i h st; obtain ⟨⟨o, h1, h2, h3⟩, _⟩ := st; exact ⟨o, h1, h2⟩
      · intro h h' inv hk; exact RVs.step (fun b o nb e => ⟨hk b o nb e, nb⟩) _ _ inv
      · intro i d v h hd hP inv
        obtain ⟨v', hv', rv⟩ := inv.get i d hd
        have : vs[i]? = some v := by simpa using hP
        rw [this] at hv'; cases hv'; exact rv
    · exact ⟨⟨⟨_, Heap.get?_push_size _ rfl, rfl, rfl⟩, ⟨_, Heap.get?_push_of_some _ ho, rfl, n, rfl⟩⟩, RVs.step (up Ban hBan _) _ _ rs⟩
  | str x =>
    cases e
    obtain ⟨t, rfl, hl⟩ := r.str_inv
    have hitem : ∀ Ban i d v h, (chars x)[i]? = some d → SignAt x i v → (fun _ : Heap => True) h → RV w h Ban d v := by
      intro Ban i d v h hd hP _
      obtain ⟨c, u, hc, rfl⟩ := hP
      simp only [chars, List.getElem?_map, Array.getElem?_toList, hc, Option.map_some, Option.some.injEq] at hd
      subst hd
      exact rv_str (by show 1 ≤ lim; decide)
    cases ha : x.cps.all (· < 128)
    · refine wpAny_pyIter_wide ha (hQ _ _ (fun Ban i h => h.IsStrIter s.heap.objs.size "str_iterator" x t i ∧ True) rfl fun Ban hI hBan => ⟨?_, ⟨_, Heap.get?_push_size _ rfl, rfl, rfl⟩, trivial⟩)
      exact Src.ofWalks (T := "str_iterator") (Inv := fun _ => True) (Walks.strWide hh _ x t) (by simp [chars]) (by decide) hI (by intro b hb hbI; simp at hb; exact absurd hb hbI) (fun i h st => let ⟨o, h1, h2, h3⟩ := st; ⟨o, h1, h2⟩) (fun _ _ _ _ => trivial) (hitem Ban)
    · refine wpAny_pyIter_ascii ha (hQ _ _ (fun Ban i h => h.IsStrIter s.heap.objs.size "str_ascii_iterator" x t i ∧ True) rfl fun Ban hI hBan => ⟨?_, ⟨_, Heap.get?_push_size _ rfl, rfl, rfl⟩, trivial⟩)
      exact Src.ofWalks (T := "str_ascii_iterator") (Inv := fun _ => True) (Walks.strAscii hh _ x t) (by simp [chars]) (by decide) hI (by intro b hb hbI; simp at hb; exact absurd hb hbI) (fun i h st => let ⟨o, h1, h2, h3⟩ := st; ⟨o, h1, h2⟩) (fun _ _ _ _ => trivial) (hitem Ban)
  | range x y z =>
    cases e
    simp only [RV] at r
    obtain ⟨a, t, u, q, rfl, nb, ho, hr⟩ := r
    refine wpAny_pyIter_range ho (range_small hr) (hQ _ _ (fun Ban i h => IsRangeIter h s.heap.objs.size (x + (i : Nat) * z) ((rangeLen x y z : Int) - (i : Nat)) z ∧ True) rfl fun Ban hI hBan => ⟨?_, ?_, trivial⟩)
    · refine Src.ofWalks (T := "range_iterator") (Inv := fun _ => True) (Walks.range hh _ x z (rangeLen x y z)) (by simp [rangeL]) (by decide) hI (by intro b hb hbI; simp at hb; exact absurd hb hbI) (fun i h st => ⟨_, st, rfl⟩) (fun _ _ _ _ => trivial) ?_
      intro i d v h hd hP _
      obtain ⟨t', rfl⟩ := hP
      simp only [rangeL, List.map_map, List.getElem?_map, Option.map_eq_some_iff] at hd
      obtain ⟨j, hj, rfl⟩ := hd
      have hj' : i = j := by
        obtain ⟨_, hj⟩ := List.getElem?_eq_some_iff.mp hj
        simpa using hj
      subst hj'
      exact rv_int
    · show (s.heap.push _).get? _ = _
      rw [Heap.get?_push_size _ rfl, rangeLen_eq hr]
      simp [rawInt]
  | dict ks vs =>
    cases e
    simp only [RV] at r
    obtain ⟨a, es, n, rfl, nb, hsys, ho, rk, rv, hh'⟩ := r
    have hsys' : (a == sysModules) = false := by simpa using hsys
    have hne : a ≠ s.heap.objs.size := Nat.ne_of_lt (Heap.lt_size ho)
    rcases hh' with ⟨xs, rfl, hnd, hhash⟩ | ⟨xs, rfl, hnd, hhash⟩
    · have hlen : xs.length = es.toList.length := by have := rk.length; simpa using this.symm
      have hkvs : (xs.zip (es.toList.map (·.val))).map (·.1) = xs := by rw [List.map_fst_zip (by simp [hlen])]
      have hD : ∀ h : Heap, h.get? a = some ⟨.type "dict", none, .dict es n, #[]⟩ → h.DictAt (strKind prog w) a (xs.zip (es.toList.map (·.val))) n := by
        intro h ho'
        refine ⟨_, es, ho', ⟨rfl, rfl, rfl⟩, rfl, ?_, pairs_of (f := .str) (h := s.heap) (B := B) (fun k v h r => by obtain ⟨t, rfl, -⟩ := r.str_inv; exact strKind_is prog w k t) xs es.toList rk, by rw [hkvs]; exact hnd⟩
        intro en hen
        obtain ⟨x, t, e1, e2⟩ := hhash en (Array.mem_toList_iff.mpr hen)
        exact ⟨x, by rw [e1]; exact strKind_is prog w x t, e2⟩
      refine wpAny_pyIter_dict hsys' (hD _ ho) (hQ _ _ (fun Ban i h => (h.IsKeyIter s.heap.objs.size a i (xs.zip (es.toList.map (·.val))).length n ∧ h.DictAt (strKind prog w) a (xs.zip (es.toList.map (·.val))) n) ∧ ∀ x ∈ xs, x.length ≤ lim) rfl fun Ban hI hBan => ⟨?_, ?_⟩)
      · refine Src.ofWalks (T := "dict_keyiterator") (Inv := fun _ => ∀ x ∈ xs, x.length ≤ lim) (Walks.dictKeys hh _ a hne _ n) (by simp [hlen]) (by decide) hI ?_ ?_ (fun _ _ inv _ => inv) ?_
        · intro b hb hbI
          simp at hb
          rcases hb with rfl | rfl
          · exact absurd rfl hbI
          · exact notBan Ban hBan _ _ nb ho
        · intro i h st; obtain ⟨⟨o, h1, h2, h3⟩, _⟩ := st; exact ⟨o, h1, h2⟩
        · intro i d v h hd hP inv
          obtain ⟨k, x, hk, hv⟩ := hP
          obtain ⟨t', rfl⟩ := Value.isStrOf_shape hv
          have : (xs.zip (es.toList.map (·.val))).map (·.1) = xs := hkvs
          have hki : xs[i]? = some k := by rw [← this, List.getElem?_map, hk]; rfl
          simp only [List.getElem?_map, hki, Option.map_some, Option.some.injEq] at hd
          subst hd
          exact rv_str (inv k (List.mem_of_getElem? hki))
      · refine ⟨⟨⟨_, Heap.get?_push_size _ rfl, rfl, rfl⟩, hD _ (Heap.get?_push_of_some _ ho)⟩, ?_⟩
        intro x hx
        obtain ⟨i, hi, rfl⟩ := List.mem_iff_getElem.mp hx
        obtain ⟨v, _, rv'⟩ := rk.get i (.str xs[i]) (by simp [hi])
        simp only [RV] at rv'
        obtain ⟨_, _, hx'⟩ := rv'
        exact hx'
    · have hlen : xs.length = es.toList.length := by have := rk.length; simpa using this.symm
      have hkvs : (xs.zip (es.toList.map (·.val))).map (·.1) = xs := by rw [List.map_fst_zip (by simp [hlen])]
      have hD : ∀ h : Heap, h.get? a = some ⟨.type "dict", none, .dict es n, #[]⟩ → h.DictAt (intKind prog w) a (xs.zip (es.toList.map (·.val))) n := by
        intro h ho'
        refine ⟨_, es, ho', ⟨rfl, rfl, rfl⟩, rfl, ?_, pairs_of (f := .int) (h := s.heap) (B := B) (fun k v h r => by obtain ⟨t, rfl⟩ := r.int_inv; exact intKind_is prog w k t) xs es.toList rk, by rw [hkvs]; exact hnd⟩
        intro en hen
        obtain ⟨x, t, e1, e2⟩ := hhash en (Array.mem_toList_iff.mpr hen)
        exact ⟨x, by rw [e1]; exact intKind_is prog w x t, e2⟩
      refine wpAny_pyIter_dict hsys' (hD _ ho) (hQ _ _ (fun Ban i h => (h.IsKeyIter s.heap.objs.size a i (xs.zip (es.toList.map (·.val))).length n ∧ h.DictAt (intKind prog w) a (xs.zip (es.toList.map (·.val))) n) ∧ True) rfl fun Ban hI hBan => ⟨?_, ?_⟩)
      · refine Src.ofWalks (T := "dict_keyiterator") (Inv := fun _ => True) (Walks.dictKeys hh _ a hne _ n) (by simp [hlen]) (by decide) hI ?_ ?_ (fun _ _ inv _ => inv) ?_
        · intro b hb hbI
          simp at hb
          rcases hb with rfl | rfl
          · exact absurd rfl hbI
          · exact notBan Ban hBan _ _ nb ho
        · intro i h st; obtain ⟨⟨o, h1, h2, h3⟩, _⟩ := st; exact ⟨o, h1, h2⟩
        · intro i d v h hd hP inv
          obtain ⟨k, x, hk, hv⟩ := hP
          obtain ⟨t', rfl⟩ := Value.isInt_shape hv
          have : (xs.zip (es.toList.map (·.val))).map (·.1) = xs := hkvs
          have hki : xs[i]? = some k := by rw [← this, List.getElem?_map, hk]; rfl
          simp only [List.getElem?_map, hki, Option.map_some, Option.some.injEq] at hd
          subst hd
          exact rv_int
      · exact ⟨⟨⟨_, Heap.get?_push_size _ rfl, rfl, rfl⟩, hD _ (Heap.get?_push_of_some _ ho)⟩, trivial⟩
  | _ => cases e
end

end Mine

end

section
open PySem PySem.W PyProof.Rows PySem.SeqAt
set_option Elab.async false
namespace Mine

theorem FE.lt {w : World} {h₀ : Heap} {env : Env} {B : Addr → Prop} {m : PE} {h : Heap} (f : FE w h₀ env B m h) : ∀ b, B b → b < h.objs.size := fun b hb => let ⟨_, ho⟩ := f.hi b hb; Heap.lt_size ho

theorem FE.keep {w : World} {h₀ : Heap} {env : Env} {B : Addr → Prop} {m : PE} {h h' : Heap} (f : FE w h₀ env B m h) (hk : ∀ b o, h.get? b = some o → h'.get? b = some o) : FE w h₀ env B m h' where
  kind := f.kind
  gl := f.gl
  bl := f.bl
  nm := f.nm
  base := fun b o e => hk b o (f.base b o e)
  hi := fun b hb => let ⟨o, ho⟩ := f.hi b hb; ⟨o, hk b o ho⟩
  lo := f.lo
  var := fun x d e => let ⟨v, h1, h2⟩ := f.var x d e; ⟨v, h1.keep hk, h2.keep hk⟩
  cell := f.cell
  cex := fun x c e => let ⟨o, ho⟩ := f.cex x c e; ⟨o, hk c o ho⟩

/-- fewer names, other bans (fewer, or at places that did not stand) -/
theorem FE.sub {w : World} {h₀ : Heap} {env : Env} {B B' : Addr → Prop} {m m' : PE} {h h' : Heap} (f : FE w h₀ env B m h) (hk : ∀ b o, h.get? b = some o → h'.get? b = some o)
    (hB : ∀ b, B' b → B b ∨ h.objs.size ≤ b) (hi : ∀ b, B' b → ∃ o, h'.get? b = some o) (hlo : ∀ b, B' b → h₀.get? b = none) (hm : ∀ x d, m' x = some d → m x = some d) : FE w h₀ env B' m' h' where
  kind := f.kind
  gl := f.gl
  bl := f.bl
  nm := f.nm
  base := fun b o e => hk b o (f.base b o e)
  hi := hi
  lo := hlo
  var := fun x d e => let ⟨v, h1, h2⟩ := f.var x d (hm x d e); ⟨v, h1.keep hk, RV.step (fun b o nb e => ⟨hk b o e, fun q => by
    rcases hB b q with h | h
    · exact nb h
    · exact Nat.lt_irrefl _ (Nat.lt_of_lt_of_le (Heap.lt_size e) h)⟩) d v h2⟩
  cell := f.cell
  cex := fun x c e => let ⟨o, ho⟩ := f.cex x c e; ⟨o, hk c o ho⟩

/-- a frame whose names may be stored -/
structure FR (w : World) (h₀ : Heap) (env : Env) (stor : Str → Bool) (B₀ Mt : Addr → Prop) (m : PE) (h : Heap) : Prop where
  fe : FE w h₀ env (fun b => B₀ b ∨ Mt b) m h
  dj : ∀ b, B₀ b → ¬ Mt b
  loc : ∃ ml, h.Ns env.locals ml
  mtl : Mt env.locals
  cel : ∀ x, stor x = true → env.kindOf x = some .cell → ∃ c v, env.cells.lookup x = some c ∧ h.IsCell c v ∧ Mt c ∧ c ≠ env.locals ∧ ∀ y, env.cells.lookup y = some c → y = x

/-- the places of a frame's own names -/
noncomputable def Fam (env : Env) (stor : Str → Bool) (b : Addr) : Prop := b = env.locals ∨ ∃ x, stor x = true ∧ env.kindOf x = some .cell ∧ env.cells.lookup x = some b

theorem FR.fam {w : World} {h₀ : Heap} {env : Env} {stor : Str → Bool} {B₀ Mt : Addr → Prop} {m : PE} {h : Heap} (f : FR w h₀ env stor B₀ Mt m h) : ∀ b, Fam env stor b → Mt b := by
  rintro b (rfl | ⟨x, h1, h2, h3⟩)
  · exact f.mtl
  · obtain ⟨c, v, g1, _, g3, _⟩ := f.cel x h1 h2
    rw [h3] at g1; cases g1; exact g3

theorem FR.keep {w : World} {h₀ : Heap} {env : Env} {stor : Str → Bool} {B₀ Mt : Addr → Prop} {m : PE} {h h' : Heap} (f : FR w h₀ env stor B₀ Mt m h) (hk : ∀ b o, h.get? b = some o → h'.get? b = some o) : FR w h₀ env stor B₀ Mt m h' where
  fe := f.fe.keep hk
  dj := f.dj
  loc := let ⟨ml, h1⟩ := f.loc; ⟨ml, h1.keeps hk⟩
  mtl := f.mtl
  cel := fun x hs hx => let ⟨c, v, h1, h2, h3⟩ := f.cel x hs hx; ⟨c, v, h1, h2.keeps hk, h3⟩

theorem ns_ne_cell {h : Heap} {a c : Addr} {ml : Str → Option Value} {v : Option Value} (hn : h.Ns a ml) (hc : h.IsCell c v) : c ≠ a := by
  rintro rfl
  obtain ⟨o, es, ep, ho, hd, _⟩ := hn
  obtain ⟨o', ho', hd'⟩ := hc
  rw [ho] at ho'; cases ho'
  rw [hd] at hd'; cases hd'

theorem sameBut_keep {a : Addr} {h h' : Heap} (hs : Heap.SameBut a h h') : ∀ b o, b ≠ a → h.get? b = some o → h'.get? b = some o := fun b o hb e => (hs.2 b hb).trans e

section
variable {prog : Program} {w : World} {A : Around} {s : Shared} {h₀ : Heap} {env : Env} {stor : Str → Bool} {B₀ Mt : Addr → Prop} {m : PE}

theorem store_ok {x : Str} {d : D} {v : Value} {E : Value → Shared → Prop} {Q : Unit → Shared → Prop} (f : FR w h₀ env stor B₀ Mt m s.heap) (hst : stor x = true) (hk : env.kindOf x = some .local ∨ env.kindOf x = some .cell)
    (r : RV w s.heap (fun b => B₀ b ∨ Mt b) d v) (hQ : ∀ s', KBut (Fam env stor) s s' → (∀ b, (∃ o, s.heap.get? b = some o) → ∃ o, s'.heap.get? b = some o) → FR w h₀ env stor B₀ Mt (upd m x d) s'.heap → Q () s') :
    wpAny (model prog w) A (storeName env x v) Q E s := by
  rcases hk with hl | hc
  · obtain ⟨ml, hn⟩ := f.loc
    refine wpAny_storeName_local hl hn (fun h' hn' hs => ?_) (by rw [f.fe.kind]; rfl)
    have hkeep : ∀ b o, ¬ Mt b → s.heap.get? b = some o → h'.get? b = some o := fun b o nb e => sameBut_keep hs b o (fun q => nb (q ▸ f.mtl)) e
    have hex : ∀ b, (∃ o, s.heap.get? b = some o) → ∃ o, h'.get? b = some o := by
      rintro b ⟨o, ho⟩
      by_cases hb : b = env.locals
      · subst hb; obtain ⟨o', _, _, ho', _⟩ := hn'; exact ⟨o', ho'⟩
      · exact ⟨o, sameBut_keep hs b o hb ho⟩
    have hrv : ∀ d' v', RV w s.heap (fun b => B₀ b ∨ Mt b) d' v' → RV w h' (fun b => B₀ b ∨ Mt b) d' v' := fun d' v' r' => RV.step (fun b o nb e => ⟨hkeep b o (fun q => nb (.inr q)) e, nb⟩) d' v' r'
    refine hQ _ ⟨h', _, rfl, fun b o nb e => sameBut_keep hs b o (fun q => nb (.inl q)) e⟩ hex ?_
    · refine ⟨⟨f.fe.kind, f.fe.gl, f.fe.bl, f.fe.nm, ?_, fun b hb => hex b (f.fe.hi b hb), f.fe.lo, ?_, f.fe.cell, fun y c e => hex c (f.fe.cex y c e)⟩, f.dj, ⟨_, hn'⟩, f.mtl, ?_⟩
      · intro b o e
        refine sameBut_keep hs b o ?_ (f.fe.base b o e)
        rintro rfl
        rw [f.fe.lo _ (.inr f.mtl)] at e; cases e
      · intro y d' e
        unfold upd at e
        split at e
        · rename_i hy; subst hy; cases e
          exact ⟨v, .inl ⟨hl, _, hn', by simp⟩, hrv _ _ r⟩
        · rename_i hy
          obtain ⟨v', hv, rv'⟩ := f.fe.var y d' e
          refine ⟨v', ?_, hrv _ _ rv'⟩
          rcases hv with ⟨k, ml', n', e'⟩ | ⟨k, c, lc, e'⟩
          · refine .inl ⟨k, _, hn', ?_⟩
            simp only [hy, if_false]
            obtain ⟨o1, es1, ep1, ho1, hd1, _, hf1⟩ := hn
            obtain ⟨o2, es2, ep2, ho2, hd2, _, hf2⟩ := n'
            rw [ho1] at ho2; cases ho2; rw [hd1] at hd2; cases hd2
            rw [← hf1, hf2]; exact e'
          · exact .inr ⟨k, c, lc, e'.sameBut hs (ns_ne_cell hn e')⟩
      · intro y hs' hy
        obtain ⟨c, v', h1, h2, h3, h4, h5⟩ := f.cel y hs' hy
        exact ⟨c, v', h1, h2.sameBut hs h4, h3, h4, h5⟩
  · obtain ⟨c, v0, h1, h2, h3, h4, h5⟩ := f.cel x hst hc
    obtain ⟨ml, hn⟩ := f.loc
    refine wpAny_storeName_cell f.fe.kind hc h1 h2 fun h' hn' hs => ?_
    have hkeep : ∀ b o, ¬ Mt b → s.heap.get? b = some o → h'.get? b = some o := fun b o nb e => sameBut_keep hs b o (fun q => nb (q ▸ h3)) e
    have hex : ∀ b, (∃ o, s.heap.get? b = some o) → ∃ o, h'.get? b = some o := by
      rintro b ⟨o, ho⟩
      by_cases hb : b = c
      · subst hb; obtain ⟨o', ho', _⟩ := hn'; exact ⟨o', ho'⟩
      · exact ⟨o, sameBut_keep hs b o hb ho⟩
    have hrv : ∀ d' v', RV w s.heap (fun b => B₀ b ∨ Mt b) d' v' → RV w h' (fun b => B₀ b ∨ Mt b) d' v' := fun d' v' r' => RV.step (fun b o nb e => ⟨hkeep b o (fun q => nb (.inr q)) e, nb⟩) d' v' r'
    refine hQ _ ⟨h', s.toks, rfl, fun b o nb e => sameBut_keep hs b o (fun q => nb (.inr ⟨x, hst, hc, q ▸ h1⟩)) e⟩ hex ?_
    · refine ⟨⟨f.fe.kind, f.fe.gl, f.fe.bl, f.fe.nm, ?_, fun b hb => hex b (f.fe.hi b hb), f.fe.lo, ?_, f.fe.cell, fun y c e => hex c (f.fe.cex y c e)⟩, f.dj, ⟨ml, hn.sameBut hs (Ne.symm h4)⟩, f.mtl, ?_⟩
      · intro b o e
        refine sameBut_keep hs b o ?_ (f.fe.base b o e)
        rintro rfl
        rw [f.fe.lo _ (.inr h3)] at e; cases e
      · intro y d' e
        unfold upd at e
        split at e
        · rename_i hy; subst hy; cases e
          exact ⟨v, .inr ⟨.inl hc, c, h1, hn'⟩, hrv _ _ r⟩
        · rename_i hy
          obtain ⟨v', hv, rv'⟩ := f.fe.var y d' e
          refine ⟨v', ?_, hrv _ _ rv'⟩
          rcases hv with ⟨k, ml', n', e'⟩ | ⟨k, c', lc, e'⟩
          · exact .inl ⟨k, ml', n'.sameBut hs (Ne.symm h4), e'⟩
          · refine .inr ⟨k, c', lc, e'.sameBut hs ?_⟩
            rintro rfl
            exact hy (h5 y lc)
      · intro y hs' hy
        obtain ⟨c', v', g1, g2, g3, g4, g5⟩ := f.cel y hs' hy
        by_cases hcc : c' = c
        · subst hcc; exact ⟨c', some v, g1, hn', g3, g4, g5⟩
        · exact ⟨c', v', g1, g2.sameBut hs hcc, g3, g4, g5⟩

/-- the heap's objects stay objects -/
noncomputable def Exs (s s' : Shared) : Prop := ∀ b, (∃ o, s.heap.get? b = some o) → ∃ o, s'.heap.get? b = some o
theorem exs_trans {s s' s'' : Shared} (a : Exs s s') (b : Exs s' s'') : Exs s s'' := fun x h => b x (a x h)
theorem exs_of {s s' : Shared} (a : Keeps s s') : Exs s s' := fun b h => let ⟨o, ho⟩ := h; ⟨o, kp_heap a b o ho⟩

theorem assignEach_names (env : Env) : ∀ (ts : List Expr), (∀ t ∈ ts, ∃ x p, t = Expr.Name x p) → (assignEach ts env).length = ts.length ∧ (assignEach ts env).findIdx? (·.1) = none ∧ (assignEach ts env).map (·.2) = ts.map fun t => assign t env
  | [], _ => ⟨rfl, rfl, rfl⟩
  | t :: ts, h => by
    obtain ⟨x, p, rfl⟩ := h t List.mem_cons_self
    obtain ⟨h1, h2, h3⟩ := assignEach_names env ts fun t ht => h t (List.mem_cons_of_mem _ ht)
    refine ⟨?_, ?_, ?_⟩
    · show (assignEach ts env).length + 1 = _; rw [h1]; rfl
    · show ((false, assign (Expr.Name x p) env) :: assignEach ts env).findIdx? (·.1) = none
      rw [List.findIdx?_cons]; simp [h2]
    · show assign (Expr.Name x p) env :: (assignEach ts env).map (·.2) = _
      rw [h3]; rfl

theorem no_some {α : Type} {x : α} {P : Prop} (h : (none : Option α) = some x) : P := by cases h
theorem no_tf {P : Prop} (h : true = false) : P := by cases h
theorem no_ft {P : Prop} (h : false = true) : P := by cases h
theorem bindNs_names : ∀ (ts : List Expr) (ds : List D) (m m' : PE), bindNs ts ds m = some m' → (∀ t ∈ ts, ∃ x p, t = Expr.Name x p) ∧ ts.length = ds.length
  | [], [], m, m', e => ⟨by simp, rfl⟩
  | [], _ :: _, m, m', e => no_some e
  | t :: ts, [], m, m', e => by cases t <;> exact no_some e
  | t :: ts, d :: ds, m, m', e => by
    cases t with
    | Name x p =>
      obtain ⟨h1, h2⟩ := bindNs_names ts ds _ m' e
      exact ⟨fun t ht => by
        rcases List.mem_cons.mp ht with rfl | ht
        · exact ⟨x, p, rfl⟩
        · exact h1 t ht, by simp [h2]⟩
    | _ => exact no_some e

theorem assigns_ok {E : Value → Shared → Prop} : ∀ (ts : List Expr) (ds : List D) (vs : List Value) (m m' : PE) (s : Shared) (Q : Unit → Shared → Prop), FR w h₀ env stor B₀ Mt m s.heap → bindNs ts ds m = some m' →
    (∀ x p, Expr.Name x p ∈ ts → stor x = true ∧ (env.kindOf x = some .local ∨ env.kindOf x = some .cell)) → RVs w s.heap (fun b => B₀ b ∨ Mt b) ds vs →
    (∀ s', KBut (Fam env stor) s s' → Exs s s' → FR w h₀ env stor B₀ Mt m' s'.heap → Q () s') → wpAny (model prog w) A (assignInOrder (ts.map fun t => assign t env) vs) Q E s
  | [], [], vs, m, m', s, Q, f, e, _, r, hQ => by
    obtain rfl := r.nil_inv; cases e
    exact wpAny_pure (hQ s (kb_refl _ _) (fun _ h => h) f)
  | [], _ :: _, vs, m, m', s, Q, f, e, _, r, hQ => no_some e
  | t :: ts, [], vs, m, m', s, Q, f, e, _, r, hQ => by cases t <;> exact no_some e
  | t :: ts, d :: ds, vs, m, m', s, Q, f, e, hn, r, hQ => by
    obtain ⟨v, vs', rfl, r1, r2⟩ := r.uncons
    cases t with
    | Name x p =>
      obtain ⟨hx1, hx2⟩ := hn x p List.mem_cons_self
      show wpAny _ A (do holding vs' (assign (.Name x p) env v); assignInOrder (ts.map fun t => assign t env) vs') Q E s
      refine wpAny_bind (wpAny_holding (wpAny_assign_Name (store_ok f hx1 hx2 r1 fun s' k ex f' => ?_)))
      refine assigns_ok ts ds vs' _ m' s' Q f' e (fun x p hm => hn x p (List.mem_cons_of_mem _ hm)) (RVs.step (fun b o nb e => ⟨kb_heap k b o (fun q => nb (.inr (f.fam b q))) e, nb⟩) _ _ r2) fun s'' k' ex' f'' => ?_
      exact hQ s'' (kb_trans k k') (exs_trans ex ex') f''
    | _ => exact no_some e

theorem target_ok {t : Expr} {d : D} {v : Value} {m' : PE} {E : Value → Shared → Prop} {Q : Unit → Shared → Prop} (hh : A.handled = none) (f : FR w h₀ env stor B₀ Mt m s.heap) (e : bindT t d m = some m')
    (hn : ∀ x, (∃ p, t = .Name x p ∨ ∃ ts k p', t = .Tuple ts k p' ∧ Expr.Name x p ∈ ts) → stor x = true ∧ (env.kindOf x = some .local ∨ env.kindOf x = some .cell)) (r : RV w s.heap (fun b => B₀ b ∨ Mt b) d v)
    (hQ : ∀ s', KBut (Fam env stor) s s' → Exs s s' → FR w h₀ env stor B₀ Mt m' s'.heap → Q () s') : wpAny (model prog w) A (assign t env v) Q E s := by
  replace e := (bindT_eq e).2
  unfold bindT0 at e
  split at e
  · rename_i x p
    cases e
    obtain ⟨h1, h2⟩ := hn x ⟨p, .inl rfl⟩
    exact wpAny_assign_Name (store_ok f h1 h2 r hQ)
  · rename_i ts k p ds
    simp only [RV] at r
    obtain ⟨a, vs, n, rfl, nb, ho, rs, hl⟩ := r
    obtain ⟨hnames, hlen⟩ := bindNs_names ts ds _ _ e
    obtain ⟨g1, g2, g3⟩ := assignEach_names env ts hnames
    refine wpAny_assign_Tuple (items := vs.toArray) hh ⟨_, ho, rfl, n, rfl⟩ (by rw [g1, hlen]; simp [rs.length]) g2 fun h' hx => ?_
    have hkeep : ∀ b o, s.heap.get? b = some o → h'.get? b = some o := fun b o e => hx b o (Nat.ne_of_lt (Heap.lt_size e)) e
    rw [g3]
    refine assigns_ok ts ds vs m m' _ Q (f.keep hkeep) e (fun x p' hm => hn x ⟨p', .inr ⟨ts, k, p, rfl, hm⟩⟩) (rs.keep hkeep) fun s' k' ex' f' => ?_
    exact hQ s' (kb_trans (kb_of (kp_mk (tk := s.toks) hkeep)) k') (exs_trans (s' := { s with heap := h' }) (fun b hb => let ⟨o, ho⟩ := hb; ⟨o, hkeep b o ho⟩) ex') f'
  · cases e
end

end Mine

end

section
open PySem PySem.W PyProof.Rows PySem.SeqAt
set_option Elab.async false
namespace Mine

/-- one turn of a comprehension's loop -/
noncomputable def turnTree (e : Expr) (gens : List Comprehension) (depth : Nat) (target iter : Expr) (ifs : List Expr) (emit : Sem Unit) (it acc : Value) (env : Env) : Sem Fin := do
  standAt iter.pos
  match ← pyNext it with
  | none => pure (.done .next)
  | some v =>
    letOwnedTupleGo target it v
    assign target env v
    let mut ok := true
    for c in ifs do
      if ok then ok ← isTrue c env (eval c env)
    if ok then
      match gens[depth + 1]? with
      | some g' =>
        let x ← eval g'.iter env
        standAt g'.iter.pos
        let x ← if g'.is_async != 0 then foldedIterable g'.iter x else foldedSetIterable g'.iter env x
        let _ ← runOwn (.compStart e (depth + 1) (← holding [x] (if g'.is_async != 0 then asyncIter x else pyIter x)) acc env) env
      | none => emit
    again (.compLoop e depth it acc env)

noncomputable def emitL (elt : Expr) (acc : Value) (env : Env) : Sem Unit := do let _ ← call (.builtin "list.append") [acc, ← eval elt env]
noncomputable def emitD (k v : Expr) (acc : Value) (env : Env) : Sem Unit := do
  let kv ← eval k env
  let vv ← holding [kv] (eval v env)
  match acc with
  | .ref d => do
    standAt { k.pos with endLine := v.pos.endLine, endCol := v.pos.endCol }
    holding [kv, vv] (dictSet d kv vv)
  | _ => unsupported "internal:dictcomp"

theorem compTurn_L (elt : Expr) (gens : List Comprehension) (scope : Scope) (pos : Pos) (depth : Nat) (target iter : Expr) (ifs : List Expr) (it acc : Value) (env : Env) (hg : gens[depth]? = some ⟨target, iter, ifs, 0⟩) :
    compTurn (.ListComp elt gens scope pos) depth it acc env = turnTree (.ListComp elt gens scope pos) gens depth target iter ifs (emitL elt acc env) it acc env := by
  unfold compTurn turnTree
  simp only [hg]
  rfl
theorem compTurn_D (k v : Expr) (gens : List Comprehension) (scope : Scope) (pos : Pos) (depth : Nat) (target iter : Expr) (ifs : List Expr) (it acc : Value) (env : Env) (hg : gens[depth]? = some ⟨target, iter, ifs, 0⟩) :
    compTurn (.DictComp k v gens scope pos) depth it acc env = turnTree (.DictComp k v gens scope pos) gens depth target iter ifs (emitD k v acc env) it acc env := by
  unfold compTurn turnTree
  simp only [hg]
  rfl

/-- an expression that is a comprehension as above -/
structure IsComp (e : Expr) (gens : List Comprehension) (emit : Value → Env → Sem Unit) : Prop where
  cl : clausesOf e = gens
  turn : ∀ depth target iter ifs it acc env, gens[depth]? = some ⟨target, iter, ifs, 0⟩ → compTurn e depth it acc env = turnTree e gens depth target iter ifs (emit acc env) it acc env
  denL : ∀ (t : String → Option Builtin) depth it acc env, denote t (.compLoop e depth it acc env) = (compTurn e depth it acc env).onRaise (fun x => do noteFrame x env; theTreesLotGoes x)
  denS : ∀ (t : String → Option Builtin) depth it acc env, denote t (.compStart e depth it acc env) = (compStart e depth it acc env).onRaise (fun x => do noteFrame x env; standAt theWindowsPlace)
  underL : ∀ (A : Around) depth it acc env, A.under (.compLoop e depth it acc env) = A
  underS : ∀ (A : Around) depth it acc env, A.under (.compStart e depth it acc env) = A
  quiet : ∀ depth it acc env, (Code.compLoop e depth it acc env).quiet = true

theorem isComp_L (elt : Expr) (gens : List Comprehension) (scope : Scope) (pos : Pos) : IsComp (.ListComp elt gens scope pos) gens (emitL elt) where
  cl := rfl
  turn := fun depth target iter ifs it acc env hg => compTurn_L elt gens scope pos depth target iter ifs it acc env hg
  denL := fun _ _ _ _ _ => rfl
  denS := fun _ _ _ _ _ => rfl
  underL := fun A _ _ _ _ => Around.under_of_weight rfl
  underS := fun A _ _ _ _ => Around.under_of_weight rfl
  quiet := fun _ _ _ _ => rfl
theorem isComp_D (k v : Expr) (gens : List Comprehension) (scope : Scope) (pos : Pos) : IsComp (.DictComp k v gens scope pos) gens (emitD k v) where
  cl := rfl
  turn := fun depth target iter ifs it acc env hg => compTurn_D k v gens scope pos depth target iter ifs it acc env hg
  denL := fun _ _ _ _ _ => rfl
  denS := fun _ _ _ _ _ => rfl
  underL := fun A _ _ _ _ => Around.under_of_weight rfl
  underS := fun A _ _ _ _ => Around.under_of_weight rfl
  quiet := fun _ _ _ _ => rfl

noncomputable def notSet : Expr → Bool
  | .Set .. => false
  | _ => true
theorem folded_plain {e : Expr} (h : notSet e = true) (env : Env) (x : Value) : foldedSetIterable e env x = pure x := by
  cases e <;> first | rfl | exact no_ft h

section
variable {prog : Program} {w : World} {A : Around}

/-- what evaluating an iterable and asking its iterator gives -/
inductive IterAt (prog : Program) (w : World) (A : Around) (B : Addr → Prop) (s : Shared) (l : List D) (it : Value) (s' : Shared) : Prop where
  | mk (I : Addr) (wr : List Addr) (St : (Addr → Prop) → Nat → Heap → Prop) : it = .ref I → Keeps s s' → (∀ b ∈ wr, s.heap.get? b = none ∧ ∃ o, s'.heap.get? b = some o) →
    (∀ Ban : Addr → Prop, (∀ b ∈ wr, Ban b) → (∀ b, Ban b → B b ∨ b ∈ wr ∨ s'.heap.get? b = none) → Src prog w A Ban I wr l (St Ban) ∧ St Ban 0 s'.heap) → IterAt prog w A B s l it s'

/-- a list of lists, all made after s -/
inductive Fresh2 (s : Shared) (v : Value) (h : Heap) : Prop where
  | mk (a : Addr) (as : List Addr) (n : Nat) : v = .ref a → s.heap.get? a = none → as.Nodup → a ∉ as → (∀ b ∈ as, s.heap.get? b = none) → IsL h a (as.map Value.ref).toArray n → Fresh2 s v h

/-- what is known of an expression's value -/
structure Post (w : World) (s : Shared) (B : Addr → Prop) (e : Expr) (d : D) (v : Value) (h : Heap) : Prop where
  rv : RV w h B d v
  one : isFresh e = true → ∃ l, d = .list l ∧ Fresh w s B l v h
  two : isFresh2 e = true → Fresh2 s v h

/-- the ways in which the names' values are known, for a given depth of evaluation -/
structure EvOk (prog : Program) (w : World) (h₀ : Heap) (N : Nat) (evf : PE → Expr → Option D) (itf : PE → Expr → Option (List D)) (env : Env) : Prop where
  ev : ∀ m e d A B s, evf m e = some d → AOk A N → FE w h₀ env B m s.heap → Yields prog w A (eval e env) s (Post w s B e d)
  tr : ∀ m e b A B s, (evf m e).bind truth = some b → AOk A N → FE w h₀ env B m s.heap → Yields prog w A (isTrue e env (eval e env)) s (fun c _ => c = b)
  it : ∀ m e l A B s, itf m e = some l → AOk A N → FE w h₀ env B m s.heap → notSet e = true ∧ ∀ E Q, (∀ it s', IterAt prog w A B s l it s' → Q it s') → wpAny (model prog w) A (eval e env) (fun x s₁ => wpAny (model prog w) A (pyIter x) Q E s₁) E s

theorem tests_ok {h₀ : Heap} {N : Nat} {evf : PE → Expr → Option D} {itf : PE → Expr → Option (List D)} {env : Env} (H : EvOk prog w h₀ N evf itf env) {m : PE} {B : Addr → Prop} (hA : AOk A N) :
    ∀ (ifs : List Expr) (b : Bool) (s : Shared), testsG (evf m) ifs = some b → FE w h₀ env B m s.heap →
      Yields prog w A (forIn ifs true fun c r => if r = true then do let ok ← isTrue c env (eval c env); pure (ForInStep.yield ok) else pure (ForInStep.yield r)) s (fun c _ => c = b)
  | [], b, s, e, f => by cases e; exact wpAny_pure ⟨kp_refl s, rfl⟩
  | c :: ifs, b, s, e, f => by
    simp only [List.forIn_cons, if_true]
    unfold testsG at e
    split at e
    · rename_i ht
      refine wpAny_bind (wpAny_bind ((H.tr m c true A B s ht hA f).use fun r s' k q => wpAny_pure ?_))
      subst q
      refine (tests_ok H hA ifs b s' e (f.keep (kp_heap k))).use fun r' s'' k' q' => ⟨kp_trans k k', q'⟩
    · rename_i ht
      cases e
      refine wpAny_bind (wpAny_bind ((H.tr m c false A B s ht hA f).use fun r s' k q => wpAny_pure ?_))
      subst q
      have rest : ∀ (l : List Expr) (s'' : Shared), Keeps s s'' → wpAny (model prog w) A (forIn l false fun c r => if r = true then do let ok ← isTrue c env (eval c env); pure (ForInStep.yield ok) else pure (ForInStep.yield r)) (fun v s' => Keeps s s' ∧ v = false) (fun _ _ => False) s'' := by
        intro l
        induction l with
        | nil => intro s'' k'; exact wpAny_pure ⟨k', rfl⟩
        | cons x l ih =>
          intro s'' k'
          simp only [List.forIn_cons, Bool.false_eq_true, if_false]
          exact wpAny_bind (wpAny_pure (ih s'' k'))
      exact rest ifs s' k
    · cases e

theorem fresh_names {t : Expr} {d : D} {m m' : PE} (hf : freshT m t = true) (e : bindT t d m = some m') : ∀ x v, m x = some v → m' x = some v := by
  have key : ∀ (ts : List Expr) (ds : List D) (m1 m' : PE), bindNs ts ds m1 = some m' → ∀ x v, (∀ p, Expr.Name x p ∈ ts → False) → m1 x = some v → m' x = some v := by
    intro ts
    induction ts with
    | nil =>
      intro ds m1 m' e x v _ hx
      cases ds with
      | nil =>
        have e : some m1 = some m' := e
        cases e; exact hx
      | cons _ _ => exact no_some e
    | cons t ts ih =>
      intro ds m1 m' e x v hn hx
      cases ds with
      | nil => cases t <;> exact no_some e
      | cons d ds =>
        cases t with
        | Name y p =>
          refine ih ds _ m' e x v (fun p hp => hn p (List.mem_cons_of_mem _ hp)) ?_
          unfold upd
          split
          · rename_i hxy; subst hxy; exact absurd List.mem_cons_self (hn p)
          · exact hx
        | _ => exact no_some e
  intro x v hx
  replace e := (bindT_eq e).2
  unfold bindT0 at e
  split at e
  · rename_i y p
    cases e
    simp only [freshT] at hf
    unfold upd
    split
    · rename_i hxy; subst hxy; rw [hx] at hf; cases hf
    · exact hx
  · rename_i ts k p ds
    refine key ts ds m m' e x v (fun p hp => ?_) hx
    simp only [freshT, List.all_eq_true] at hf
    have := hf _ hp
    simp only [hx] at this
    cases this
  · cases e

theorem target_names {sc : Scope} {t : Expr} (h : targetOk sc t = true) : ∀ x, (∃ p, t = .Name x p ∨ ∃ ts k p', t = .Tuple ts k p' ∧ Expr.Name x p ∈ ts) → kd sc x = some .local ∨ kd sc x = some .cell := by
  rintro x ⟨p, rfl | ⟨ts, k, p', rfl, hm⟩⟩
  · simp only [targetOk, Bool.or_eq_true, beq_iff_eq] at h; exact h
  · simp only [targetOk, List.all_eq_true] at h
    have := h _ hm
    simpa only [Bool.or_eq_true, beq_iff_eq] using this

/-- a frame, other places changed -/
theorem FR.change {w : World} {h₀ : Heap} {env : Env} {stor : Str → Bool} {B₀ Mt Mt' : Addr → Prop} {m : PE} {h h' : Heap} (f : FR w h₀ env stor B₀ Mt m h) (Y : Addr → Prop)
    (hk : ∀ b o, ¬ Y b → h.get? b = some o → h'.get? b = some o) (hY : ∀ b, Y b → Mt b) (hM : ∀ b, Mt' b → Mt b) (hex : ∀ b, Mt' b → ∃ o, h'.get? b = some o)
    (hl : ¬ Y env.locals) (hl' : Mt' env.locals) (hc : ∀ x c, env.cells.lookup x = some c → ¬ Y c ∧ (Mt c → Mt' c)) : FR w h₀ env stor B₀ Mt' m h' where
  fe := {
    kind := f.fe.kind
    gl := f.fe.gl
    bl := f.fe.bl
    nm := f.fe.nm
    base := fun b o e => hk b o (fun y => by rw [f.fe.lo b (.inr (hY b y))] at e; cases e) (f.fe.base b o e)
    hi := fun b hb => by
      rcases hb with hb | hb
      · obtain ⟨o, ho⟩ := f.fe.hi b (.inl hb)
        exact ⟨o, hk b o (fun y => f.dj b hb (hY b y)) ho⟩
      · exact hex b hb
    lo := fun b hb => f.fe.lo b (hb.imp id (hM b))
    var := fun x d e => by
      obtain ⟨v, hv, rv⟩ := f.fe.var x d e
      refine ⟨v, ?_, RV.step (fun b o nb e => ⟨hk b o (fun y => nb (.inr (hY b y))) e, fun q => nb (q.imp id (hM b))⟩) d v rv⟩
      rcases hv with ⟨k, ml, n, e'⟩ | ⟨k, c, lc, e'⟩
      · exact .inl ⟨k, ml, n.at' fun o e => hk _ o hl e, e'⟩
      · obtain ⟨o, ho, hd⟩ := id e'
        exact .inr ⟨k, c, lc, ⟨o, hk c o (hc x c lc).1 ho, hd⟩⟩
    cell := f.fe.cell
    cex := fun y c e => by
      obtain ⟨o, ho⟩ := f.fe.cex y c e
      exact ⟨o, hk c o (hc y c e).1 ho⟩ }
  dj := fun b hb q => f.dj b hb (hM b q)
  loc := let ⟨ml, n⟩ := f.loc; ⟨ml, n.at' fun o e => hk _ o hl e⟩
  mtl := hl'
  cel := fun x hs hx => by
    obtain ⟨c, v, h1, h2, h3, h4⟩ := f.cel x hs hx
    obtain ⟨o, ho, hd⟩ := id h2
    exact ⟨c, v, h1, ⟨o, hk c o (hc x c h1).1 ho, hd⟩, (hc x c h1).2 h3, h4⟩

/-- fewer names, other places that may be changed -/
theorem FR.sub {w : World} {h₀ : Heap} {env : Env} {stor : Str → Bool} {B₀ Mt Mt' : Addr → Prop} {m m' : PE} {h h' : Heap} (f : FR w h₀ env stor B₀ Mt m h) (hk : ∀ b o, h.get? b = some o → h'.get? b = some o)
    (hM : ∀ b, Mt' b → Mt b ∨ h.get? b = none) (hM' : ∀ x c v, env.cells.lookup x = some c → h.IsCell c v → Mt c → Mt' c) (hl : Mt' env.locals) (hi : ∀ b, Mt' b → ∃ o, h'.get? b = some o) (hlo : ∀ b, Mt' b → h₀.get? b = none) (hm : ∀ x d, m' x = some d → m x = some d) :
    FR w h₀ env stor B₀ Mt' m' h' where
  fe := {
    kind := f.fe.kind
    gl := f.fe.gl
    bl := f.fe.bl
    nm := f.fe.nm
    base := fun b o e => hk b o (f.fe.base b o e)
    hi := fun b hb => by
      rcases hb with hb | hb
      · obtain ⟨o, ho⟩ := f.fe.hi b (.inl hb); exact ⟨o, hk b o ho⟩
      · exact hi b hb
    lo := fun b hb => by
      rcases hb with hb | hb
      · exact f.fe.lo b (.inl hb)
      · exact hlo b hb
    var := fun x d e => by
      obtain ⟨v, hv, rv⟩ := f.fe.var x d (hm x d e)
      refine ⟨v, hv.keep hk, RV.step (fun b o nb e => ⟨hk b o e, fun q => ?_⟩) d v rv⟩
      rcases q with q | q
      · exact nb (.inl q)
      · rcases hM b q with h1 | h1
        · exact nb (.inr h1)
        · rw [e] at h1; cases h1
    cell := f.fe.cell
    cex := fun y c e => let ⟨o, ho⟩ := f.fe.cex y c e; ⟨o, hk c o ho⟩ }
  dj := fun b hb q => by
    rcases hM b q with h1 | h1
    · exact f.dj b hb h1
    · obtain ⟨o, ho⟩ := f.fe.hi b (.inl hb); rw [ho] at h1; cases h1
  loc := let ⟨ml, n⟩ := f.loc; ⟨ml, n.keeps hk⟩
  mtl := hl
  cel := fun x hs hx => by
    obtain ⟨c, v, h1, h2, h3, h4⟩ := f.cel x hs hx
    exact ⟨c, v, h1, h2.keeps hk, hM' x c v h1 h2 h3, h4⟩
end

end Mine

end

section
open PySem PySem.W PyProof.Rows PySem.SeqAt
set_option Elab.async false
namespace Mine

theorem mapMD_get {α β : Type} {f : α → Option β} : ∀ {l : List α} {r : List β}, mapMD f l = some r → r.length = l.length ∧ ∀ (i : Nat) a, l[i]? = some a → ∃ b, r[i]? = some b ∧ f a = some b
  | [], r, e => by cases e; exact ⟨rfl, by simp⟩
  | a :: l, r, e => by
    unfold mapMD at e
    cases hf : f a with
    | none => rw [hf] at e; cases e
    | some b =>
      rw [hf] at e
      cases hr : mapMD f l with
      | none => simp only [hr] at e; cases e
      | some bs =>
        simp only [hr] at e; cases e
        obtain ⟨h1, h2⟩ := mapMD_get hr
        refine ⟨by simp [h1], fun i x hx => ?_⟩
        cases i with
        | zero => simp at hx; subst hx; exact ⟨b, rfl, hf⟩
        | succ i => simp at hx; obtain ⟨y, h3, h4⟩ := h2 i x hx; exact ⟨y, by simpa using h3, h4⟩

theorem take_flatten_succ {α : Type} (rs : List (List α)) (i : Nat) (r : List α) (h : rs[i]? = some r) : (rs.take (i + 1)).flatten = (rs.take i).flatten ++ r := by
  have hi : i < rs.length := (List.getElem?_eq_some_iff.mp h).1
  have he : rs[i] = r := (List.getElem?_eq_some_iff.mp h).2
  rw [List.take_succ_eq_append_getElem hi, List.flatten_append, he]; simp

theorem drop_at {α : Type} {l : List α} {n : Nat} {g : α} {rest : List α} (h : l.drop n = g :: rest) : l[n]? = some g ∧ l.drop (n + 1) = rest ∧ l[n + 1]? = rest.head? := by
  have h1 : l[n]? = some g := by rw [← List.head?_drop, h]; rfl
  have h2 : l.drop (n + 1) = rest := by rw [← List.tail_drop, h]; rfl
  exact ⟨h1, h2, by rw [← List.head?_drop, h2]⟩

section
variable {prog : Program} {w : World} {A : Around}

/-- the accumulator of a comprehension, at Da -/
structure AccOk (prog : Program) (w : World) (h₀ : Heap) (N : Nat) (env : Env) (stor : Str → Bool) (B₀ : Addr → Prop) (Da : Addr) (sA : Shared) (emit : Sem Unit) (k : PE → Option (List D)) (G : (Addr → Prop) → List D → Heap → Prop) : Prop where
  step : ∀ Bn Bn' out h h', G Bn out h → (∀ b o, (b = Da ∨ ¬ Bn b) → h.get? b = some o → h'.get? b = some o) → (∀ b o, ¬ Bn b → h.get? b = some o → ¬ Bn' b) → G Bn' out h'
  here : ∀ Bn out h, G Bn out h → ∃ o, h.get? Da = some o
  emit : ∀ (A : Around) (m : PE) (ds out : List D) (s : Shared) (Mt : Addr → Prop) (E : Value → Shared → Prop) (Q : Unit → Shared → Prop), AOk A N → Exs sA s → k m = some ds → out.length + ds.length ≤ lim → FR w h₀ env stor B₀ Mt m s.heap → Mt Da →
    G (fun b => B₀ b ∨ Mt b) out s.heap → (∀ s', KBut (· = Da) s s' → Exs s s' → G (fun b => B₀ b ∨ Mt b) (out ++ ds) s'.heap → Q () s') → wpAny (model prog w) A emit Q E s

/-- the tree within a turn, behind the tests -/
noncomputable def innerK (e : Expr) (gens : List Comprehension) (depth : Nat) (emit : Sem Unit) (acc : Value) (env : Env) (t : Sem Fin) : Sem Fin :=
  match gens[depth + 1]? with
  | some g' => do
    let x ← eval g'.iter env
    standAt g'.iter.pos
    let x ← if g'.is_async != 0 then foldedIterable g'.iter x else foldedSetIterable g'.iter env x
    let _ ← runOwn (.compStart e (depth + 1) (← holding [x] (if g'.is_async != 0 then asyncIter x else pyIter x)) acc env) env
    t
  | none => do emit; t

theorem turnTree_eq (e : Expr) (gens : List Comprehension) (depth : Nat) (target iter : Expr) (ifs : List Expr) (emit : Sem Unit) (it acc : Value) (env : Env) :
    turnTree e gens depth target iter ifs emit it acc env = (standAt iter.pos >>= fun _ => pyNext it >>= fun r => match r with
      | none => pure (.done .next)
      | some v => letOwnedTupleGo target it v >>= fun _ => assign target env v >>= fun _ =>
        (forIn ifs true fun c r => if r = true then do let ok ← isTrue c env (eval c env); pure (ForInStep.yield ok) else pure (ForInStep.yield r)) >>= fun ok =>
          if ok = true then innerK e gens depth emit acc env (again (.compLoop e depth it acc env)) else again (.compLoop e depth it acc env)) := by
  unfold turnTree innerK
  rfl

noncomputable def innG (evf : PE → Expr → Option D) (itf : PE → Expr → Option (List D)) (scope : Scope) (k : PE → Option (List D)) (rest : List Comprehension) (m : PE) : Option (List D) :=
  match rest with
  | [] => k m
  | g :: gs => match itf m g.iter with
    | none => none
    | some l' => (gensG evf itf scope k (g :: gs) m l').map List.flatten

theorem gensG_eq (evf : PE → Expr → Option D) (itf : PE → Expr → Option (List D)) (scope : Scope) (k : PE → Option (List D)) (t i : Expr) (ifs : List Expr) (a : Int) (rest : List Comprehension) (m : PE) (l : List D) (rs : List (List D))
    (h : gensG evf itf scope k (⟨t, i, ifs, a⟩ :: rest) m l = some rs) : a = 0 ∧ targetOk scope t = true ∧ freshT m t = true ∧ rs.length = l.length ∧
      ∀ (i : Nat) d, l[i]? = some d → ∃ r, rs[i]? = some r ∧ ∃ m', bindT t d m = some m' ∧ ((testsG (evf m') ifs = some false ∧ r = []) ∨ (testsG (evf m') ifs = some true ∧ innG evf itf scope k rest m' = some r)) := by
  unfold gensG at h
  split at h
  rotate_left
  · cases h
  rename_i hc
  obtain ⟨h1, h2⟩ := mapMD_get h
  refine ⟨hc.1, hc.2.1, hc.2.2, h1, fun i d hd => ?_⟩
  obtain ⟨r, hr, he⟩ := h2 i d hd
  refine ⟨r, hr, ?_⟩
  cases hb : bindT t d m with
  | none => simp only [hb] at he; cases he
  | some m' =>
    simp only [hb] at he
    refine ⟨m', rfl, ?_⟩
    cases ht : testsG (evf m') ifs with
    | none => simp only [ht] at he; cases he
    | some b =>
      simp only [ht] at he
      cases b with
      | false => cases he; exact .inl ⟨rfl, rfl⟩
      | true =>
        refine .inr ⟨rfl, ?_⟩
        unfold innG
        cases rest with
        | nil => exact he
        | cons g gs => exact he

/-- a comprehension's loop, before a turn -/
inductive CInv (w : World) (h₀ : Heap) (env : Env) (stor : Str → Bool) (B₀ Mt : Addr → Prop) (Da : Addr) (wr : List Addr) (m : PE) (s : Shared) (l : List D) (rs : List (List D)) (out : List D) (G : (Addr → Prop) → List D → Heap → Prop) (St : Nat → Heap → Prop) (n : Nat) (s' : Shared) : Prop where
  | mk (i : Nat) : i ≤ l.length → n = l.length + 1 - i → KBut (fun b => Fam env stor b ∨ b = Da ∨ b ∈ wr) s s' → Exs s s' → FR w h₀ env stor B₀ Mt m s'.heap →
    G (fun b => B₀ b ∨ Mt b) (out ++ (rs.take i).flatten) s'.heap → St i s'.heap → CInv w h₀ env stor B₀ Mt Da wr m s l rs out G St n s'
theorem loop_core {sA : Shared} {h₀ : Heap} {N : Nat} {evf : PE → Expr → Option D} {itf : PE → Expr → Option (List D)} {env : Env} {stor : Str → Bool} {B₀ : Addr → Prop} {Da : Addr} {k : PE → Option (List D)}
    {G : (Addr → Prop) → List D → Heap → Prop} {e : Expr} {gens : List Comprehension} {emit : Value → Env → Sem Unit} {scope : Scope} (K : IsComp e gens emit) (H : EvOk prog w h₀ N evf itf env) (hA : AOk A N)
    (GA : AccOk prog w h₀ N env stor B₀ Da sA (emit (.ref Da) env) k G)
    (hst : ∀ x, kd scope x = some .local ∨ kd scope x = some .cell → stor x = true ∧ (env.kindOf x = some .local ∨ env.kindOf x = some .cell))
    (hDl : Da ≠ env.locals) (hDc : ∀ x c, env.cells.lookup x = some c → c ≠ Da) (hDf : ¬ Fam env stor Da)
    (rest : List Comprehension) (depth : Nat) (g : Comprehension) (m : PE) (l : List D) (rs : List (List D)) (s : Shared) (Mt : Addr → Prop) (I : Addr) (wr : List Addr) (St : Nat → Heap → Prop) (out : List D) (R : Result → Shared → Prop)
    (HI : ∀ (m' : PE) (ds out : List D) (s : Shared) (t : Sem Fin) (E : Value → Shared → Prop) (Q : Fin → Shared → Prop), Exs sA s → innG evf itf scope k rest m' = some ds → out.length + ds.length ≤ lim → FR w h₀ env stor B₀ Mt m' s.heap → Mt Da →
      G (fun b => B₀ b ∨ Mt b) out s.heap → (∀ s', KBut (fun b => Fam env stor b ∨ b = Da) s s' → Exs s s' → FR w h₀ env stor B₀ Mt m' s'.heap → G (fun b => B₀ b ∨ Mt b) (out ++ ds) s'.heap → wpAny (model prog w) A t Q E s') →
      wpAny (model prog w) A (innerK e gens depth (emit (.ref Da) env) (.ref Da) env t) Q E s)
    (hdrop : gens.drop depth = g :: rest) (hgens : gensG evf itf scope k (g :: rest) m l = some rs) (hlim : out.length + rs.flatten.length ≤ lim) (src : Src prog w A (fun b => B₀ b ∨ Mt b) I wr l St)
    (hwr : ∀ b ∈ wr, Mt b ∧ b ≠ env.locals ∧ b ≠ Da ∧ ∀ x c, env.cells.lookup x = some c → c ≠ b)
    (f : FR w h₀ env stor B₀ Mt m s.heap) (hMD : Mt Da) (hG : G (fun b => B₀ b ∨ Mt b) out s.heap) (hSt : St 0 s.heap) (hsA : Exs sA s)
    (hR : ∀ s', KBut (fun b => Fam env stor b ∨ b = Da ∨ b ∈ wr) s s' → (∀ b, b ∉ wr → (∃ o, s.heap.get? b = some o) → ∃ o, s'.heap.get? b = some o) → FR w h₀ env stor B₀ (fun b => Mt b ∧ b ∉ wr) m s'.heap →
      G (fun b => B₀ b ∨ (Mt b ∧ b ∉ wr)) (out ++ rs.flatten) s'.heap → R (.ok .next) s') :
    codeAny (model prog w) A (.compLoop e depth (.ref I) (.ref Da) env) R s := by
  obtain ⟨target, iter, ifs, a⟩ := g
  obtain ⟨hg1, _, hg2⟩ := drop_at hdrop
  obtain ⟨rfl, hto, hft, hrl, hrs⟩ := gensG_eq _ _ _ _ _ _ _ _ _ _ _ _ hgens
  have wrNF : ∀ b ∈ wr, ¬ Fam env stor b := by
    rintro b hb (rfl | ⟨x, _, _, h3⟩)
    · exact (hwr _ hb).2.1 rfl
    · exact (hwr _ hb).2.2.2 x b h3 rfl
  have famCell : ∀ b, Fam env stor b → b = env.locals ∨ ∃ x, env.cells.lookup x = some b := by
    rintro b (h | ⟨x, _, _, h3⟩)
    · exact .inl h
    · exact .inr ⟨x, h3⟩
  refine codeAny_loop (K.quiet _ _ _ _) (CInv w h₀ env stor B₀ Mt Da wr m s l rs out G St) ?_ (l.length + 1) ⟨0, Nat.zero_le _, rfl, kb_refl _ _, fun _ h => h, f, by simpa using hG, hSt⟩
  rintro n s' ⟨i, hi, rfl, kb, ex, f', hG', hSt'⟩
  rw [K.underL]
  show wpAny _ A (denote table (.compLoop e depth (.ref I) (.ref Da) env)) _ _ s'
  rw [K.denL, K.turn depth target iter ifs _ _ _ hg1, turnTree_eq]
  refine wpAny_noted ?_
  refine wpAny_bind (wpAny_standAt (wpAny_bind ?_))
  by_cases hlt : i < l.length
  · obtain ⟨r, hr1, m', hb, htest⟩ := hrs i l[i] (List.getElem?_eq_getElem hlt)
    refine src.item i l[i] target s' _ _ (bindT_eq hb).1 (List.getElem?_eq_getElem hlt) hSt' fun v s₁ hgo => ?_
    refine wpAny_bind (hgo _ _ fun s₂ k₂ hSt₂ rv₂ => ?_)
    replace rv₂ := RV.less (B' := fun b => B₀ b ∨ Mt b) rv₂ fun b hb => ⟨hb, f'.fe.hi b hb⟩
    have ex₂ : Exs s' s₂ := by
      rintro b ⟨o, ho⟩
      by_cases hbw : b ∈ wr
      · exact src.ex _ _ hSt₂ b hbw
      · exact ⟨o, kb_heap k₂ b o hbw ho⟩
    have f₂ : FR w h₀ env stor B₀ Mt m s₂.heap := f'.change (· ∈ wr) (fun b o nb e => kb_heap k₂ b o nb e) (fun b hb => (hwr b hb).1) (fun _ h => h) (fun b hb => ex₂ b (f'.fe.hi b (.inr hb)))
      (fun hb => (hwr _ hb).2.1 rfl) f'.mtl (fun x c hc => ⟨fun hb => (hwr c hb).2.2.2 x c hc rfl, id⟩)
    have hG₂ := GA.step _ (fun b => B₀ b ∨ Mt b) _ _ s₂.heap hG' (fun b o hb e => kb_heap k₂ b o (fun hbw => by
      rcases hb with rfl | hb
      · exact (hwr _ hbw).2.2.1 rfl
      · exact hb (.inr (hwr _ hbw).1)) e) (fun b o nb _ => nb)
    refine wpAny_bind (target_ok hA.hd f₂ hb (fun x hx => hst x (target_names hto x hx)) rv₂ fun s₃ k₃ ex₃ f₃ => ?_)
    have hG₃ := GA.step _ (fun b => B₀ b ∨ Mt b) _ _ s₃.heap hG₂ (fun b o hb e => kb_heap k₃ b o (fun hbf => by
      rcases hb with rfl | hb
      · exact hDf hbf
      · exact hb (.inr (f₂.fam b hbf))) e) (fun b o nb _ => nb)
    have hSt₃ : St (i + 1) s₃.heap := src.frame (i + 1) _ _ (Fam env stor) hSt₂ (fun b hbf => ⟨.inr (f₂.fam b hbf), fun hbw => wrNF b hbw hbf⟩) (fun b o nb e => kb_heap k₃ b o nb e)
    have kb₃ : KBut (fun b => Fam env stor b ∨ b = Da ∨ b ∈ wr) s s₃ := kb_trans kb (kb_trans (kb_mono k₂ fun b hb => .inr (.inr hb)) (kb_mono k₃ fun b hb => .inl hb))
    have up : ∀ x d, m x = some d → m' x = some d := fresh_names hft hb
    have fin : ∀ s₅, KBut (fun b => Fam env stor b ∨ b = Da) s₃ s₅ → Exs s₃ s₅ → FR w h₀ env stor B₀ Mt m' s₅.heap → G (fun b => B₀ b ∨ Mt b) ((out ++ (rs.take i).flatten) ++ r) s₅.heap →
        ∃ m_1, m_1 < l.length + 1 - i ∧ CInv w h₀ env stor B₀ Mt Da wr m s l rs out G St m_1 s₅ := by
      intro s₅ k₅ ex₅ f₅ hG₅
      refine ⟨l.length + 1 - (i + 1), by omega, i + 1, hlt, rfl, kb_trans kb₃ (kb_mono k₅ fun b hb => hb.imp id .inl), exs_trans ex (exs_trans ex₂ (exs_trans ex₃ ex₅)), ?_, ?_, ?_⟩
      · exact f₅.sub (fun _ _ e => e) (fun b hb => .inl hb) (fun _ _ _ _ _ h => h) f₅.mtl (fun b hb => f₅.fe.hi b (.inr hb)) (fun b hb => f₅.fe.lo b (.inr hb)) up
      · rw [take_flatten_succ rs i r hr1, ← List.append_assoc]; exact hG₅
      · exact src.frame (i + 1) _ _ (fun b => Fam env stor b ∨ b = Da) hSt₃ (fun b hbf => by
          rcases hbf with hbf | rfl
          · exact ⟨.inr (f₂.fam b hbf), fun hbw => wrNF b hbw hbf⟩
          · exact ⟨.inr hMD, fun hbw => (hwr _ hbw).2.2.1 rfl⟩) (fun b o nb e => kb_heap k₅ b o nb e)
    have hlen : (out ++ (rs.take i).flatten).length + r.length ≤ lim := by
      have h1 : (rs.take (i + 1)).flatten.length ≤ rs.flatten.length := by
        have : rs.flatten = (rs.take (i + 1)).flatten ++ (rs.drop (i + 1)).flatten := by rw [← List.flatten_append, List.take_append_drop]
        rw [this, List.length_append]; omega
      rw [take_flatten_succ rs i r hr1, List.length_append] at h1
      rw [List.length_append]; omega
    rcases htest with ⟨ht, rfl⟩ | ⟨ht, hin⟩
    · refine wpAny_bind ((tests_ok H hA ifs false s₃ ht f₃.fe).use fun c s₄ k₄ q => ?_)
      subst q
      simp only [Bool.false_eq_true, if_false]
      refine wpAny_pure ⟨rfl, fin s₄ (kb_of k₄) (exs_of k₄) (f₃.keep (kp_heap k₄)) ?_⟩
      rw [List.append_nil]
      exact GA.step _ _ _ _ _ hG₃ (fun b o _ e => kp_heap k₄ b o e) (fun b o nb _ => nb)
    · refine wpAny_bind ((tests_ok H hA ifs true s₃ ht f₃.fe).use fun c s₄ k₄ q => ?_)
      subst q
      simp only [if_true]
      refine (HI m' r _ s₄ _ _ _ (exs_trans hsA (exs_trans ex (exs_trans ex₂ (exs_trans ex₃ (exs_of k₄))))) hin hlen (f₃.keep (kp_heap k₄)) hMD (GA.step _ _ _ _ _ hG₃ (fun b o _ e => kp_heap k₄ b o e) (fun b o nb _ => nb)) fun s₅ k₅ ex₅ f₅ hG₅ => ?_)
      exact wpAny_pure ⟨rfl, fin s₅ (kb_trans (kb_of k₄) k₅) (exs_trans (exs_of k₄) ex₅) f₅ hG₅⟩
  · have hin : i = l.length := by omega
    subst hin
    refine src.done s' _ _ hSt' fun s₁ k₁ => wpAny_pure ?_
    have hall : rs.take l.length = rs := by rw [← hrl]; exact List.take_length
    rw [hall] at hG'
    refine hR s₁ (kb_trans kb (kb_mono k₁ fun b hb => .inr (.inr hb))) (fun b hbw hb => ?_) ?_ ?_
    · obtain ⟨o, ho⟩ := ex b hb
      exact ⟨o, kb_heap k₁ b o hbw ho⟩
    · exact f'.change (· ∈ wr) (fun b o nb e => kb_heap k₁ b o nb e) (fun b hb => (hwr b hb).1) (fun _ h => h.1) (fun b hb => by
          obtain ⟨o, ho⟩ := f'.fe.hi b (.inr hb.1); exact ⟨o, kb_heap k₁ b o hb.2 ho⟩)
        (fun hb => (hwr _ hb).2.1 rfl) ⟨f'.mtl, fun hb => (hwr _ hb).2.1 rfl⟩ (fun x c hc => ⟨fun hb => (hwr c hb).2.2.2 x c hc rfl, fun hM => ⟨hM, fun hb => (hwr c hb).2.2.2 x c hc rfl⟩⟩)
    · exact GA.step _ _ _ _ s₁.heap hG' (fun b o hb e => kb_heap k₁ b o (fun hbw => by
        rcases hb with rfl | hb
        · exact (hwr _ hbw).2.2.1 rfl
        · exact hb (.inr (hwr _ hbw).1)) e) (fun b o nb _ q => nb (q.imp id (·.1)))
end

end Mine

end

section
open PySem PySem.W PyProof.Rows PySem.SeqAt
set_option Elab.async false
namespace Mine

section
variable {prog : Program} {w : World} {A : Around}

theorem start_ok {e : Expr} {gens : List Comprehension} {emit : Value → Env → Sem Unit} (K : IsComp e gens emit) {depth : Nat} {t i : Expr} {ifs : List Expr} {it acc : Value} {env : Env} {R : Result → Shared → Prop} {s : Shared}
    (hg : gens[depth]? = some ⟨t, i, ifs, 0⟩) (hself : ∀ (E : Value → Shared → Prop) (Q : Value → Shared → Prop), Q it s → wpAny (model prog w) A (pyIter it) Q E s)
    (h : codeAny (model prog w) A (.compLoop e depth it acc env) R s) : codeAny (model prog w) A (.compStart e depth it acc env) R s := by
  refine codeAny_of_tree ?_
  rw [K.underS]
  show wpAny _ A (denote table (.compStart e depth it acc env)) _ _ s
  rw [K.denS]
  refine wpAny_notedAt ?_
  unfold compStart
  rw [K.cl, hg]
  show wpAny _ A (ask >>= _) _ _ s
  refine wpAny_bind (wpAny_askSetting (wpAny_ite ?_))
  split
  · first
      | exact wpAny_bind (wpAny_pure (wpAny_pure (And.intro (K.quiet _ _ _ _) h)))
      | exact wpAny_pure (And.intro (K.quiet _ _ _ _) h)
  · refine wpAny_bind (wpAny_rule ?_)
    show wpAny _ A (standAt i.pos >>= _) _ _ s
    exact wpAny_bind (wpAny_standAt (wpAny_bind (hself _ _ (wpAny_pure (And.intro (K.quiet _ _ _ _) h)))))

theorem loop_ok {sA : Shared} {h₀ : Heap} {N : Nat} {evf : PE → Expr → Option D} {itf : PE → Expr → Option (List D)} {env : Env} {stor : Str → Bool} {B₀ : Addr → Prop} {Da : Addr} {k : PE → Option (List D)}
    {G : (Addr → Prop) → List D → Heap → Prop} {e : Expr} {gens : List Comprehension} {emit : Value → Env → Sem Unit} {scope : Scope} (K : IsComp e gens emit) (H : EvOk prog w h₀ N evf itf env) (hA : AOk A N)
    (GA : AccOk prog w h₀ N env stor B₀ Da sA (emit (.ref Da) env) k G)
    (hst : ∀ x, kd scope x = some .local ∨ kd scope x = some .cell → stor x = true ∧ (env.kindOf x = some .local ∨ env.kindOf x = some .cell))
    (hDl : Da ≠ env.locals) (hDc : ∀ x c, env.cells.lookup x = some c → c ≠ Da) (hDf : ¬ Fam env stor Da) :
    ∀ (rest : List Comprehension) (depth : Nat) (g : Comprehension) (m : PE) (l : List D) (rs : List (List D)) (s : Shared) (Mt : Addr → Prop) (I : Addr) (wr : List Addr) (St : Nat → Heap → Prop) (out : List D) (R : Result → Shared → Prop)
    (_ : gens.drop depth = g :: rest) (_ : gensG evf itf scope k (g :: rest) m l = some rs) (_ : out.length + rs.flatten.length ≤ lim) (_ : Src prog w A (fun b => B₀ b ∨ Mt b) I wr l St)
    (_ : ∀ b ∈ wr, Mt b ∧ b ≠ env.locals ∧ b ≠ Da ∧ ∀ x c, env.cells.lookup x = some c → c ≠ b)
    (_ : FR w h₀ env stor B₀ Mt m s.heap) (_ : Mt Da) (_ : G (fun b => B₀ b ∨ Mt b) out s.heap) (_ : St 0 s.heap) (_ : Exs sA s)
    (_ : ∀ s', KBut (fun b => Fam env stor b ∨ b = Da ∨ b ∈ wr) s s' → (∀ b, b ∉ wr → (∃ o, s.heap.get? b = some o) → ∃ o, s'.heap.get? b = some o) → FR w h₀ env stor B₀ (fun b => Mt b ∧ b ∉ wr) m s'.heap →
      G (fun b => B₀ b ∨ (Mt b ∧ b ∉ wr)) (out ++ rs.flatten) s'.heap → R (.ok .next) s'),
    codeAny (model prog w) A (.compLoop e depth (.ref I) (.ref Da) env) R s := by
  intro rest
  induction rest with
  | nil =>
    intro depth g m l rs s Mt I wr St out R hdrop hgens hlim src hwr f hMD hG hSt hsA hR
    refine loop_core K H hA GA hst hDl hDc hDf [] depth g m l rs s Mt I wr St out R ?_ hdrop hgens hlim src hwr f hMD hG hSt hsA hR
    intro m' ds out' s' t E Q hsA' hin hl f' hM' hG' hQ
    unfold innerK
    rw [(drop_at hdrop).2.2]
    show wpAny _ A (emit (.ref Da) env >>= fun _ => t) Q E s'
    refine wpAny_bind (GA.emit A m' ds out' s' Mt _ _ hA hsA' hin hl f' hM' hG' fun s'' k'' ex'' hG'' => ?_)
    refine hQ s'' (kb_mono k'' fun b hb => .inr hb) ex'' ?_ hG''
    exact f'.change (· = Da) (fun b o nb e => kb_heap k'' b o nb e) (fun b hb => hb ▸ hM') (fun _ h => h) (fun b hb => ex'' b (f'.fe.hi b (.inr hb))) (fun q => hDl q.symm) f'.mtl (fun x c hc => ⟨hDc x c hc, id⟩)
  | cons g' rest ih =>
    intro depth g m l rs s Mt I wr St out R hdrop hgens hlim src hwr f hMD hG hSt hsA hR
    refine loop_core K H hA GA hst hDl hDc hDf (g' :: rest) depth g m l rs s Mt I wr St out R ?_ hdrop hgens hlim src hwr f hMD hG hSt hsA hR
    intro m' ds out' s' t E Q hsA' hin hl f' hM' hG' hQ
    obtain ⟨hd1, hd2, hd3⟩ := drop_at hdrop
    unfold innG at hin
    simp only at hin
    cases hit : itf m' g'.iter with
    | none => simp only [hit] at hin; cases hin
    | some l' =>
      simp only [hit] at hin
      cases hgs : gensG evf itf scope k (g' :: rest) m' l' with
      | none => simp only [hgs] at hin; cases hin
      | some rs' =>
        simp only [hgs, Option.map_some, Option.some.injEq] at hin
        subst hin
        obtain ⟨target', iter', ifs', a'⟩ := g'
        obtain ⟨rfl, _, _, _, _⟩ := gensG_eq _ _ _ _ _ _ _ _ _ _ _ _ hgs
        obtain ⟨hns, hiter⟩ := H.it m' iter' l' A (fun b => B₀ b ∨ Mt b) s' hit hA f'.fe
        unfold innerK
        rw [hd3]
        show wpAny _ A (eval iter' env >>= fun x => standAt iter'.pos >>= fun _ => foldedSetIterable iter' env x >>= fun x => holding [x] (pyIter x) >>= fun it => runOwn (.compStart e (depth + 1) it (.ref Da) env) env >>= fun _ => t) Q E s'
        refine wpAny_bind (wpAny_mono (hiter E (fun it s₁ => wpAny (model prog w) A (runOwn (.compStart e (depth + 1) it (.ref Da) env) env >>= fun _ => t) Q E s₁) ?_) (fun x s₁ hx => wpAny_bind (wpAny_standAt (wpAny_bind (wpAny_of_eq (folded_plain hns env x) (wpAny_bind (wpAny_holding hx)))))) fun _ _ h => h)
        rintro it s₁ ⟨I', wr', St0, rfl, k₁, hwr', hsrc⟩
        obtain ⟨src', hSt'⟩ := hsrc (fun b => B₀ b ∨ (Mt b ∨ b ∈ wr')) (fun b hb => .inr (.inr hb)) (fun b hb => by
          rcases hb with hb | hb | hb
          · exact .inl (.inl hb)
          · exact .inl (.inr hb)
          · exact .inr (.inl hb))
        have f₁ : FR w h₀ env stor B₀ (fun b => Mt b ∨ b ∈ wr') m' s₁.heap := f'.sub (kp_heap k₁) (fun b hb => hb.imp id fun h => (hwr' b h).1) (fun _ _ _ _ _ h => .inl h) (.inl f'.mtl)
          (fun b hb => by
            rcases hb with hb | hb
            · obtain ⟨o, ho⟩ := f'.fe.hi b (.inr hb); exact ⟨o, kp_heap k₁ b o ho⟩
            · exact (hwr' b hb).2)
          (fun b hb => by
            rcases hb with hb | hb
            · exact f'.fe.lo b (.inr hb)
            · cases e0 : h₀.get? b with
              | none => rfl
              | some o => have := f'.fe.base b o e0; rw [(hwr' b hb).1] at this; cases this) (fun _ _ h => h)
        have locEx : ∃ o, s'.heap.get? env.locals = some o := by obtain ⟨ml, o, _, _, ho, _⟩ := f'.loc; exact ⟨o, ho⟩
        have hwr1 : ∀ b ∈ wr', b ≠ env.locals ∧ b ≠ Da ∧ ∀ x c, env.cells.lookup x = some c → c ≠ b := by
          intro b hb
          have hnone := (hwr' b hb).1
          refine ⟨?_, ?_, ?_⟩
          · rintro rfl; obtain ⟨o, ho⟩ := locEx; rw [ho] at hnone; cases hnone
          · rintro rfl; obtain ⟨o, ho⟩ := GA.here _ _ _ hG'; rw [ho] at hnone; cases hnone
          · rintro x c hc rfl; obtain ⟨o, ho⟩ := f'.fe.cex x _ hc; rw [ho] at hnone; cases hnone
        refine wpAny_bind (wpAny_runOwn ?_)
        show codeAny (model prog w) A _ _ s₁
        refine start_ok K (by rw [hd3]; rfl) (fun E Q hq => src'.self 0 s₁ E Q hSt' hq) ?_
        refine ih (depth + 1) ⟨target', iter', ifs', 0⟩ m' l' rs' s₁ (fun b => Mt b ∨ b ∈ wr') I' wr' (St0 _) out' _ hd2 hgs hl src' (fun b hb => ⟨.inr hb, hwr1 b hb⟩) f₁ (.inl hM')
          (GA.step _ _ _ _ _ hG' (fun b o _ e => kp_heap k₁ b o e) (fun b o nb e q => by
            rcases q with q | q | q
            · exact nb (.inl q)
            · exact nb (.inr q)
            · rw [(hwr' b q).1] at e; cases e)) hSt' (exs_trans hsA' (exs_of k₁)) ?_
        intro s₂ k₂ ex₂ f₂ hG₂
        refine hQ s₂ ?_ ?_ ?_ ?_
        · obtain ⟨h2, tk2, rfl⟩ := kb_same k₂
          obtain ⟨h1, tk1, rfl, hk1⟩ := k₁
          refine ⟨h2, tk2, rfl, fun b o nb ho => kb_heap k₂ b o (fun q => ?_) (hk1 b o ho)⟩
          rcases q with q | q | q
          · exact nb (.inl q)
          · exact nb (.inr q)
          · rw [(hwr' b q).1] at ho; cases ho
        · rintro b ⟨o, ho⟩
          refine ex₂ b (fun hb => ?_) ⟨o, kp_heap k₁ b o ho⟩
          rw [(hwr' b hb).1] at ho; cases ho
        · refine f₂.sub (fun _ _ e => e) (fun b hb => .inl ⟨.inl hb, fun hbw => ?_⟩) (fun x c v hc _ hM => ?_) f'.mtl (fun b hb => f₂.fe.hi b (.inr ⟨.inl hb, fun hbw => ?_⟩)) (fun b hb => f'.fe.lo b (.inr hb)) (fun _ _ h => h)
          · obtain ⟨o, ho⟩ := f'.fe.hi b (.inr hb); rw [(hwr' b hbw).1] at ho; cases ho
          · rcases hM with ⟨hM | hM, hn⟩
            · exact hM
            · exact absurd hM hn
          · obtain ⟨o, ho⟩ := f'.fe.hi b (.inr hb); rw [(hwr' b hbw).1] at ho; cases ho
        · refine GA.step _ _ _ _ _ hG₂ (fun b o _ e => e) (fun b o nb e q => nb ?_)
          rcases q with q | q
          · exact .inl q
          · refine .inr ⟨.inl q, fun hbw => ?_⟩
            obtain ⟨o', ho'⟩ := f'.fe.hi b (.inr q); rw [(hwr' b hbw).1] at ho'; cases ho'
end

end Mine

end

section
open PySem PySem.W PyProof.Rows PySem.SeqAt
set_option Elab.async false
namespace Mine

noncomputable def closeL (env : Env) : List (Str × NameKind) → List (Str × Addr) → List (Str × Addr)
  | [], acc => acc
  | (n, k) :: r, acc => if k == .free then (match env.cells.lookup n with | some c => closeL env r ((n, c) :: acc) | none => closeL env r acc) else closeL env r acc

theorem closureFor_eq {scope : Scope} {env : Env} (h : ∀ x ∈ scope.names, x.2 = .free → ∃ c, env.cells.lookup x.1 = some c) : closureFor scope env = pure (closeL env scope.names []) := by
  simp only [closureFor]
  have key : ∀ (names : List (Str × NameKind)) (acc : List (Str × Addr)), (∀ x ∈ names, x.2 = .free → ∃ c, env.cells.lookup x.1 = some c) →
      (forIn names acc fun (x : Str × NameKind) cs => match x with
        | (name, kind) => if (kind == NameKind.free) = true then do
            let __do_lift ← cellOf env name
            pure (ForInStep.yield ((name, __do_lift) :: cs))
          else pure (ForInStep.yield cs) : Sem (List (Str × Addr))) = pure (closeL env names acc) := by
    intro names
    induction names with
    | nil => intro acc _; rfl
    | cons x r ih =>
      intro acc hx
      obtain ⟨n, k⟩ := x
      rw [List.forIn_cons]
      simp only
      unfold closeL
      by_cases hk : (k == NameKind.free) = true
      · obtain ⟨c, hc⟩ := hx (n, k) List.mem_cons_self (by simpa using hk)
        simp only at hc
        have hco : cellOf env n = pure c := by unfold cellOf; rw [hc]
        rw [if_pos hk, if_pos hk, hc, hco]
        simp only
        exact ih _ fun y hy => hx y (List.mem_cons_of_mem _ hy)
      · rw [if_neg hk, if_neg hk]
        exact ih _ fun y hy => hx y (List.mem_cons_of_mem _ hy)
  have := key scope.names [] h
  first | exact this | (rw [this]; rfl)

theorem lookup_some_of {α : Type} : ∀ {l : List (Str × α)} {x : Str} {c : α}, (x, c) ∈ l → ∃ c', l.lookup x = some c'
  | (n, k) :: r, x, c, h => by
    rw [List.lookup_cons]
    by_cases hx : x = n
    · subst hx; simp
    · have : (x == n) = false := by simpa using hx
      simp only [this]
      rcases List.mem_cons.mp h with h | h
      · cases h; exact absurd rfl hx
      · exact lookup_some_of h

theorem closeL_mem (env : Env) : ∀ (names : List (Str × NameKind)) (acc : List (Str × Addr)) (x : Str) (c : Addr), (x, c) ∈ closeL env names acc → (x, c) ∈ acc ∨ ((x, NameKind.free) ∈ names ∧ env.cells.lookup x = some c)
  | [], acc, x, c, h => .inl h
  | (n, k) :: r, acc, x, c, h => by
    unfold closeL at h
    split at h
    · rename_i hk
      have hk' : k = .free := by simpa using hk
      subst hk'
      split at h
      · rename_i c' hc'
        rcases closeL_mem env r _ x c h with h | h
        · rcases List.mem_cons.mp h with h | h
          · cases h; exact .inr ⟨List.mem_cons_self, hc'⟩
          · exact .inl h
        · exact .inr ⟨List.mem_cons_of_mem _ h.1, h.2⟩
      · rcases closeL_mem env r _ x c h with h | h
        · exact .inl h
        · exact .inr ⟨List.mem_cons_of_mem _ h.1, h.2⟩
    · rcases closeL_mem env r _ x c h with h | h
      · exact .inl h
      · exact .inr ⟨List.mem_cons_of_mem _ h.1, h.2⟩
theorem closeL_acc (env : Env) : ∀ (names : List (Str × NameKind)) (acc : List (Str × Addr)) (p : Str × Addr), p ∈ acc → p ∈ closeL env names acc
  | [], acc, p, h => h
  | (n, k) :: r, acc, p, h => by
    unfold closeL
    split
    · split
      · exact closeL_acc env r _ p (List.mem_cons_of_mem _ h)
      · exact closeL_acc env r _ p h
    · exact closeL_acc env r _ p h
theorem closeL_has (env : Env) : ∀ (names : List (Str × NameKind)) (acc : List (Str × Addr)) (x : Str) (c : Addr), (x, NameKind.free) ∈ names → env.cells.lookup x = some c → (x, c) ∈ closeL env names acc
  | [], acc, x, c, h, _ => by simp at h
  | (n, k) :: r, acc, x, c, h, hc => by
    unfold closeL
    rcases List.mem_cons.mp h with h | h
    · cases h
      simp only [beq_self_eq_true, if_true, hc]
      exact closeL_acc env r _ _ List.mem_cons_self
    · split
      · split
        · exact closeL_has env r _ x c h hc
        · exact closeL_has env r _ x c h hc
      · exact closeL_has env r _ x c h hc
theorem closeL_look (env : Env) (names : List (Str × NameKind)) (x : Str) (c : Addr) (h : (x, NameKind.free) ∈ names) (hc : env.cells.lookup x = some c) : (closeL env names []).lookup x = some c := by
  obtain ⟨c', h'⟩ := lookup_some_of (closeL_has env names [] x c h hc)
  rcases closeL_mem env names [] x c' (mem_of_lookup h') with h1 | h1
  · simp at h1
  · rw [h1.2] at hc; cases hc; exact h'

theorem cellsFrom_append : ∀ (names : List (Str × NameKind)) (n : Nat) (acc : List (Str × Addr)), cellsFrom n names acc = cellsFrom n names [] ++ acc
  | [], n, acc => rfl
  | (x, k) :: r, n, acc => by
    unfold cellsFrom
    split
    · rw [cellsFrom_append r (n + 1) ((x, n) :: acc), cellsFrom_append r (n + 1) [(x, n)]]; simp
    · exact cellsFrom_append r n acc

theorem cellsFrom_mem : ∀ (names : List (Str × NameKind)) (n : Nat) (x : Str) (c : Addr), (x, c) ∈ cellsFrom n names [] → (x, NameKind.cell) ∈ names ∧ n ≤ c
  | [], n, x, c, h => by simp [cellsFrom] at h
  | (y, k) :: r, n, x, c, h => by
    unfold cellsFrom at h
    split at h
    · rename_i hk
      rw [cellsFrom_append] at h
      rcases List.mem_append.mp h with h | h
      · obtain ⟨h1, h2⟩ := cellsFrom_mem r (n + 1) x c h
        exact ⟨List.mem_cons_of_mem _ h1, by omega⟩
      · simp at h; obtain ⟨rfl, rfl⟩ := h
        have : k = .cell := by simpa using hk
        subst this
        exact ⟨List.mem_cons_self, Nat.le_refl _⟩
    · obtain ⟨h1, h2⟩ := cellsFrom_mem r n x c h
      exact ⟨List.mem_cons_of_mem _ h1, h2⟩

theorem cellsFrom_has : ∀ (names : List (Str × NameKind)) (n : Nat) (x : Str), (x, NameKind.cell) ∈ names → ∃ c, (cellsFrom n names []).lookup x = some c
  | [], n, x, h => by simp at h
  | (y, k) :: r, n, x, h => by
    unfold cellsFrom
    split
    · rw [cellsFrom_append, List.lookup_append]
      rcases List.mem_cons.mp h with h | h
      · cases h
        cases hl : (cellsFrom (n + 1) r []).lookup y with
        | none => exact ⟨n, by simp⟩
        | some c => exact ⟨c, by simp⟩
      · obtain ⟨c, hc⟩ := cellsFrom_has r (n + 1) x h
        exact ⟨c, by rw [hc]; rfl⟩
    · rename_i hk
      rcases List.mem_cons.mp h with h | h
      · cases h; exact absurd rfl hk
      · exact cellsFrom_has r n x h

theorem lookup_none_of {α : Type} {l : List (Str × α)} {x : Str} (h : ∀ c, (x, c) ∈ l → False) : l.lookup x = none := by
  cases e : l.lookup x with
  | none => rfl
  | some c => exact (h c (mem_of_lookup e)).elim

theorem lookup_map_snd {α β : Type} (g : Str → α → β) : ∀ (l : List (Str × α)) (x : Str), (l.map fun p => (p.1, g p.1 p.2)).lookup x = (l.lookup x).map (g x)
  | [], x => rfl
  | (n, k) :: r, x => by
    rw [List.map_cons, List.lookup_cons, List.lookup_cons]
    by_cases h : x = n
    · subst h; simp
    · have : (x == n) = false := by simpa using h
      simp only [this]
      exact lookup_map_snd g r x

noncomputable def relK (sc : Scope) (n : Str) (k : NameKind) : NameKind := if (k == .free && sc.kind == .function && kd sc n == some .cell) then .cell else k
theorem relabelS_kd (scope sc : Scope) (x : Str) : kd (relabelS scope sc) x = (kd scope x).map (relK sc x) := by
  unfold kd relabelS
  have : (scope.names.map fun (n, k) => if (k == NameKind.free && sc.kind == .function && kd sc n == some .cell) then (n, NameKind.cell) else (n, k)) = scope.names.map fun p => (p.1, relK sc p.1 p.2) := by
    apply List.map_congr_left
    rintro ⟨n, k⟩ _
    unfold relK
    simp only
    split <;> rfl
  show List.lookup x (scope.names.map fun (n, k) => if (k == NameKind.free && sc.kind == .function && kd sc n == some .cell) then (n, NameKind.cell) else (n, k)) = _
  rw [this]
  exact lookup_map_snd (relK sc) scope.names x
section
variable {prog : Program} {w : World} {A : Around}

theorem newCompEnv {scope : Scope} {globals : Addr} {cl : List (Str × Addr)} {qual : Str} {outer : Env} {E : Value → Shared → Prop} {Q : Env → Shared → Prop} {s : Shared}
    (hQ : Q (newEnv scope s.heap.objs.size globals (cellsFrom (s.heap.objs.size + 1) scope.names cl) qual none .none (some outer) builtinsNs) { s with heap := pushCells (s.heap.push { cls := .type "dict", data := .dict #[] }) scope.names }) :
    wpAny (model prog w) A (newFunctionEnv scope globals cl [] qual none .none (some outer)) Q E s := by
  simp only [newFunctionEnv, Option.isSome_some, if_true]
  refine wpAny_bind (wpAny_alloc ?_)
  refine wpAny_bind (wpAny_layCells _ (fun name kind cells => by cases hkc : kind == NameKind.cell <;> simp [hkc]) _ _ _ _ ?_)
  rw [show ({ s with heap := s.heap.push { cls := .type "dict", data := .dict #[] } } : Shared).heap.objs.size = s.heap.objs.size + 1 from Heap.size_push ..]
  exact wpAny_pure hQ
end

end Mine

end

section
open PySem PySem.W PyProof.Rows PySem.SeqAt
set_option Elab.async false
namespace Mine

section
variable {prog : Program} {w : World} {A : Around}

noncomputable def storS (scope : Scope) (x : Str) : Bool := kd scope x == some .local || kd scope x == some .cell

noncomputable def compEnvM (scope : Scope) (env : Env) (C : Addr) : Env :=
  { newEnv scope C env.globals (cellsFrom (C + 1) scope.names (closeL env scope.names [])) env.qual none .none (some env) builtinsNs with scope := relabel scope env }

theorem scope_parts {scope sc : Scope} (h : scopeOk scope sc = true) : scope.kind = .function ∧ sc.kind = .function ∧ nmOk scope = true ∧
    ∀ x k, (x, k) ∈ scope.names → kd scope x = some k ∧ (k = .free → isCellish (kd sc x) = true) := by
  simp only [scopeOk, Bool.and_eq_true, beq_iff_eq, List.all_eq_true] at h
  obtain ⟨⟨⟨h1, h2⟩, h3⟩, h4⟩ := h
  refine ⟨h1, h2, h3, fun x k hm => ?_⟩
  obtain ⟨h5, h6⟩ := h4 _ hm
  refine ⟨h5, fun hk => ?_⟩
  subst hk
  simpa using h6

/-- the frame of a comprehension, as it is entered -/
theorem comp_frame {h₀ : Heap} {scope : Scope} {env : Env} {B X0 : Addr → Prop} {m : PE} {h : Heap} (hsc : scopeOk scope env.scope = true) (f : FE w h₀ env (fun b => B b ∨ X0 b) m h) (dj : ∀ b, B b → ¬ X0 b) :
    let h' := pushCells (h.push { cls := .type "dict", data := .dict #[] }) scope.names
    let cenv := compEnvM scope env h.objs.size
    (∀ b o, h.get? b = some o → h'.get? b = some o) ∧ FR w h₀ cenv (storS scope) B (fun b => X0 b ∨ Fam cenv (storS scope) b) (inner scope m) h' ∧
      (∀ b, Fam cenv (storS scope) b → h.get? b = none) ∧ (∀ x c, cenv.cells.lookup x = some c → h.get? c = none ∨ (kd scope x = some .free ∧ env.cells.lookup x = some c)) := by
  intro h' cenv
  obtain ⟨hk1, hk2, hnm, hnames⟩ := scope_parts hsc
  have hC : cenv.locals = h.objs.size := rfl
  have hkeep : ∀ b o, h.get? b = some o → h'.get? b = some o := fun b o e => pushCells_keeps _ _ b o (Heap.get?_push_of_some _ e)
  have ok := cellsFrom_ok scope.names (h.push { cls := .type "dict", data := .dict #[] }) (h.objs.size + 1) [] ⟨fun _ _ hm => (nomatch hm), List.Pairwise.nil⟩ (by rw [Heap.size_push]; exact Nat.le_refl _)
  rw [Heap.size_push] at ok
  have hcells : cenv.cells = cellsFrom (h.objs.size + 1) scope.names [] ++ closeL env scope.names [] := cellsFrom_append _ _ _
  have hkd : ∀ x, cenv.kindOf x = (kd scope x).map (relK env.scope x) := fun x => relabelS_kd scope env.scope x
  have fresh : ∀ a, h.objs.size ≤ a → h.get? a = none := fun a ha => by
    cases e : h.get? a with
    | none => rfl
    | some o => exact absurd (Heap.lt_size e) (Nat.not_lt.mpr ha)
  -- lookups
  have lookNew : ∀ x, kd scope x = some .cell → ∃ c, cenv.cells.lookup x = some c ∧ (x, c) ∈ cellsFrom (h.objs.size + 1) scope.names [] := by
    intro x hx
    obtain ⟨c, hc⟩ := cellsFrom_has scope.names (h.objs.size + 1) x (mem_of_lookup hx)
    exact ⟨c, by rw [hcells, List.lookup_append, hc]; rfl, mem_of_lookup hc⟩
  have lookOld : ∀ x, kd scope x ≠ some .cell → cenv.cells.lookup x = (closeL env scope.names []).lookup x := by
    intro x hx
    rw [hcells, List.lookup_append, lookup_none_of (fun c hc => hx (hnames x _ (cellsFrom_mem _ _ _ _ hc).1).1)]; rfl
  have lookAll : ∀ x c, cenv.cells.lookup x = some c → ((x, c) ∈ cellsFrom (h.objs.size + 1) scope.names [] ∧ kd scope x = some .cell) ∨ (kd scope x = some .free ∧ env.cells.lookup x = some c) := by
    intro x c hc
    by_cases hx : kd scope x = some .cell
    · obtain ⟨c', h1, h2⟩ := lookNew x hx
      rw [hc] at h1; cases h1
      exact .inl ⟨h2, hx⟩
    · rw [lookOld x hx] at hc
      rcases closeL_mem env _ [] x c (mem_of_lookup hc) with h1 | h1
      · simp at h1
      · exact .inr ⟨(hnames x _ h1.1).1, h1.2⟩
  have famNone : ∀ b, Fam cenv (storS scope) b → h.get? b = none := by
    rintro b (rfl | ⟨x, h1, h2, h3⟩)
    · exact fresh _ (Nat.le_refl _)
    · have hx : kd scope x = some .cell := by
        rw [hkd] at h2
        simp only [storS, Bool.or_eq_true, beq_iff_eq] at h1
        rcases h1 with h1 | h1
        · rw [h1] at h2; simp [relK] at h2
        · exact h1
      obtain ⟨c', g1, g2⟩ := lookNew x hx
      rw [h3] at g1; cases g1
      exact fresh _ (by have := (cellsFrom_mem _ _ _ _ g2).2; omega)
  have locNs : h'.Ns cenv.locals (fun _ => none) := (Heap.Ns.new h (.type "dict")).keeps (pushCells_keeps _ _)
  have famEx : ∀ b, Fam cenv (storS scope) b → ∃ o, h'.get? b = some o := by
    rintro b (rfl | ⟨x, h1, h2, h3⟩)
    · obtain ⟨o, _, _, ho, _⟩ := locNs; exact ⟨o, ho⟩
    · rcases lookAll x b h3 with h4 | h4
      · obtain ⟨o, ho, _⟩ := (ok.empty _ _ h4.1).1; exact ⟨o, ho⟩
      · obtain ⟨o, ho⟩ := f.cex x b h4.2; exact ⟨o, hkeep b o ho⟩
  refine ⟨hkeep, ?_, famNone, fun x c hc => ?_⟩
  · refine ⟨⟨hk1, f.gl, f.bl, ?_, fun b o e => hkeep b o (f.base b o e), ?_, ?_, ?_, ?_, ?_⟩, ?_, ⟨_, locNs⟩, .inr (.inl rfl), ?_⟩
    · -- nmOk
      have e1 : kd (relabelS scope env.scope) (Str.ofString "__debug__") = none := by
        rw [relabelS_kd]; simp only [nmOk, Bool.and_eq_true, Option.isNone_iff_eq_none] at hnm; rw [hnm.1]; rfl
      have e2 : kd (relabelS scope env.scope) (Str.ofString "__classdict__") = none := by
        rw [relabelS_kd]; simp only [nmOk, Bool.and_eq_true, Option.isNone_iff_eq_none] at hnm; rw [hnm.2]; rfl
      show nmOk (relabelS scope env.scope) = true
      simp [nmOk, e1, e2]
    · rintro b (hb | hb | hb)
      · obtain ⟨o, ho⟩ := f.hi b (.inl hb); exact ⟨o, hkeep b o ho⟩
      · obtain ⟨o, ho⟩ := f.hi b (.inr hb); exact ⟨o, hkeep b o ho⟩
      · exact famEx b hb
    · rintro b (hb | hb | hb)
      · exact f.lo b (.inl hb)
      · exact f.lo b (.inr hb)
      · cases e0 : h₀.get? b with
        | none => rfl
        | some o => have := f.base b o e0; rw [famNone b hb] at this; cases this
    · intro x d hx
      unfold inner at hx
      split at hx
      · rename_i hfree
        obtain ⟨v, hv, rv⟩ := f.var x d hx
        have hcel := (hnames x _ (mem_of_lookup hfree)).2 rfl
        rcases hv with ⟨k1, _⟩ | ⟨k1, c, lc, e⟩
        · have : env.kindOf x = kd env.scope x := rfl
          rw [← this, k1] at hcel; cases hcel
        · refine ⟨v, .inr ⟨?_, c, ?_, e.keeps hkeep⟩, RV.step (fun b o nb e => ⟨hkeep b o e, fun q => ?_⟩) d v rv⟩
          · rw [hkd, hfree]
            simp only [Option.map_some, relK]
            split
            · exact .inl rfl
            · exact .inr rfl
          · rw [lookOld x (by rw [hfree]; simp)]
            exact closeL_look env _ x c (mem_of_lookup hfree) lc
          · rcases q with q | q | q
            · exact nb (.inl q)
            · exact nb (.inr q)
            · rw [famNone b q] at e; cases e
      · cases hx
    · intro x hx
      rw [hkd] at hx
      cases hxk : kd scope x with
      | none => rw [hxk] at hx; cases hx
      | some k =>
        rw [hxk] at hx
        by_cases hkc : k = .cell
        · subst hkc; obtain ⟨c, h1, _⟩ := lookNew x hxk; exact ⟨c, h1⟩
        · have hkf : k = .free := by
            cases k <;> simp [relK, isCellish] at hx hkc ⊢
          subst hkf
          have hcel := (hnames x _ (mem_of_lookup hxk)).2 rfl
          obtain ⟨c, hc⟩ := f.cell x hcel
          exact ⟨c, by rw [lookOld x (by rw [hxk]; simp)]; exact closeL_look env _ x c (mem_of_lookup hxk) hc⟩
    · intro x c hc
      rcases lookAll x c hc with h4 | h4
      · obtain ⟨o, ho, _⟩ := (ok.empty _ _ h4.1).1; exact ⟨o, ho⟩
      · obtain ⟨o, ho⟩ := f.cex x c h4.2; exact ⟨o, hkeep c o ho⟩
    · rintro b hb (hq | hq)
      · exact dj b hb hq
      · obtain ⟨o, ho⟩ := f.hi b (.inl hb); rw [famNone b hq] at ho; cases ho
    · intro x hs hx
      have hxk : kd scope x = some .cell := by
        rw [hkd] at hx
        simp only [storS, Bool.or_eq_true, beq_iff_eq] at hs
        rcases hs with h1 | h1
        · rw [h1] at hx; simp [relK] at hx
        · exact h1
      obtain ⟨c, h1, h2⟩ := lookNew x hxk
      refine ⟨c, none, h1, (ok.empty _ _ h2).1, .inr (.inr ⟨x, hs, hx, h1⟩), ?_, ?_⟩
      · rw [hC]; exact Nat.ne_of_gt (Nat.lt_of_lt_of_le (Nat.lt_succ_self _) (ok.empty _ _ h2).2)
      · intro y hy
        rcases lookAll y c hy with h4 | h4
        · exact name_of_addr ok.apart h4.1 h2
        · obtain ⟨o, ho⟩ := f.cex y c h4.2
          have := (ok.empty _ _ h2).2
          rw [fresh c (by omega)] at ho; cases ho
  · rcases lookAll x c hc with h4 | h4
    · exact .inl (fresh _ (by have := (cellsFrom_mem _ _ _ _ h4.1).2; omega))
    · exact .inr h4
end

end Mine

end

section
open PySem PySem.W PyProof.Rows PySem.SeqAt
set_option Elab.async false
namespace Mine

section
variable {prog : Program} {w : World} {A : Around}

/-- the list that a comprehension fills -/
inductive RefA (sA : Shared) (Da : Addr) (Bn : Addr → Prop) (h : Heap) (a : Addr) : Prop where
  | mk : sA.heap.get? a = none → a ≠ Da → ¬ Bn a → (∃ o, h.get? a = some o) → RefA sA Da Bn h a
inductive GL (w : World) (sA : Shared) (Da : Addr) (fr : Bool) (Bn : Addr → Prop) (out : List D) (h : Heap) : Prop where
  | mk (ys : List Value) (n : Nat) : IsL h Da ys.toArray n → RVs w h Bn out ys → (fr = true → ∃ as : List Addr, ys = as.map Value.ref ∧ as.Nodup ∧ ∀ a ∈ as, RefA sA Da Bn h a) → GL w sA Da fr Bn out h

theorem accL_ok {h₀ : Heap} {N : Nat} {evf : PE → Expr → Option D} {itf : PE → Expr → Option (List D)} {env : Env} {stor : Str → Bool} {B₀ : Addr → Prop} {Da : Addr} {sA : Shared} {elt : Expr} (H : EvOk prog w h₀ N evf itf env) :
    AccOk prog w h₀ N env stor B₀ Da sA (emitL elt (.ref Da) env) (fun m' => (evf m' elt).map fun d => [d]) (GL w sA Da (isFresh elt)) where
  step := by
    rintro Bn Bn' out h h' ⟨ys, n, hl, rs, hfr⟩ hk hb
    refine ⟨ys, n, hk Da _ (.inl rfl) hl, RVs.step (fun b o nb e => ⟨hk b o (.inr nb) e, hb b o nb e⟩) _ _ rs, fun hf => ?_⟩
    obtain ⟨as, h1, h2, h3⟩ := hfr hf
    refine ⟨as, h1, h2, fun a ha => ?_⟩
    obtain ⟨g1, g2, g3, o, g4⟩ := h3 a ha
    exact ⟨g1, g2, hb a o g3 g4, o, hk a o (.inr g3) g4⟩
  here := by rintro Bn out h ⟨ys, n, hl, _⟩; exact ⟨_, hl⟩
  emit := by
    rintro A m ds out s Mt E Q hA hex hk hlen f hMD ⟨ys, n, hl, rs, hfr⟩ hQ
    cases he : evf m elt with
    | none => simp only [he] at hk; cases hk
    | some d =>
      simp only [he, Option.map_some, Option.some.injEq] at hk
      subst hk
      unfold emitL
      refine wpAny_bind ((H.ev m elt d A _ s he hA f.fe).use fun x s₁ k₁ hp => ?_)
      obtain ⟨rv, hfx, _⟩ := hp
      have hl₁ := kp_heap k₁ _ _ hl
      have rs₁ := rs.keep (kp_heap k₁)
      have hys : ys.toArray.size ≤ sizeLine := by
        rw [List.size_toArray, rs.length]
        have : ([d] : List D).length = 1 := rfl
        exact lim_le (by omega)
      refine wpAny_bind (wpAny_list_append_plain (hsz := hys) ⟨n, hl₁⟩ fun h₂ hl₂ hs₂ => wpAny_pure ?_)
      have hk₂ : ∀ b o, b ≠ Da → s.heap.get? b = some o → h₂.get? b = some o := fun b o nb e => sameBut_keep hs₂ b o nb (kp_heap k₁ b o e)
      have hk₂' : ∀ b o, ¬ (B₀ b ∨ Mt b) → s₁.heap.get? b = some o → h₂.get? b = some o := fun b o nb e => sameBut_keep hs₂ b o (fun q => nb (.inr (q ▸ hMD))) e
      obtain ⟨n₂, hl₂⟩ := hl₂
      have exDa : ∃ o, h₂.get? Da = some o := ⟨_, hl₂⟩
      obtain ⟨h₁, tk₁, rfl, hk₁⟩ := k₁
      refine hQ _ ⟨h₂, tk₁, rfl, fun b o nb e => hk₂ b o nb e⟩ (fun b hb => ?_) ⟨ys ++ [x], n₂, by simpa using hl₂, ?_, fun hf => ?_⟩
      · by_cases hbD : b = Da
        · subst hbD; exact exDa
        · obtain ⟨o, ho⟩ := hb; exact ⟨o, hk₂ b o hbD ho⟩
      · refine (RVs.step (fun b o nb e => ⟨hk₂' b o nb e, nb⟩) _ _ rs₁).append (.one (RV.step (fun b o nb e => ⟨hk₂' b o nb e, nb⟩) d x rv))
      · obtain ⟨as, g1, g2, g3⟩ := hfr hf
        obtain ⟨l, rfl, a, vs, n', rfl, ha, hla, rl, hln⟩ := hfx hf
        have haB : ¬ (B₀ a ∨ Mt a) := fun q => by obtain ⟨o, ho⟩ := f.fe.hi a q; rw [ha] at ho; cases ho
        refine ⟨as ++ [a], by simp [g1], ?_, ?_⟩
        · rw [List.nodup_append]
          refine ⟨g2, by simp, ?_⟩
          intro b hb c hc hbc
          simp at hc; subst hc; subst hbc
          obtain ⟨_, _, _, o, ho⟩ := g3 b hb
          rw [ha] at ho; cases ho
        · intro b hb
          rcases List.mem_append.mp hb with hb | hb
          · obtain ⟨q1, q2, q3, o, q4⟩ := g3 b hb
            exact ⟨q1, q2, q3, o, hk₂ b o q2 q4⟩
          · simp at hb; subst hb
            refine ⟨?_, fun q => ?_, haB, _, hk₂' b _ haB hla⟩
            · cases e : sA.heap.get? b with
              | none => rfl
              | some o => obtain ⟨o', ho'⟩ := hex b ⟨o, e⟩; rw [ha] at ho'; cases ho'
            · subst q; have hl' : s.heap.get? b = some _ := hl; rw [ha] at hl'; cases hl'

/-- an iterable in place and its iterator: the comprehension's run -/
theorem comp_gen {h₀ : Heap} {N : Nat} {evf : PE → Expr → Option D} {itf : PE → Expr → Option (List D)} {itO : PE → Expr → Option (List D)} {evO : PE → Expr → Option D} {env : Env} {B : Addr → Prop} {e : Expr} {emit : Value → Env → Sem Unit} {k : PE → Option (List D)} {G : Addr → (Addr → Prop) → List D → Heap → Prop} {newAcc : Sem Value} {o₀ : Obj} {g : Comprehension} {gs : List Comprehension} {scope : Scope} {pos : Pos}
    {m : PE} {l : List D} {rs : List (List D)} {s : Shared} {use : Option (Value → Sem Unit)} {E : Value → Shared → Prop} {Q : Value → Shared → Prop}
    (hA : AOk A N) (HO : EvOk prog w h₀ N evO itO env) (HI : ∀ env' : Env, env'.scope = relabelS scope env.scope → EvOk prog w h₀ N evf itf env') (f : FE w h₀ env B m s.heap)
    (hsc : scopeOk scope env.scope = true) (hit : itO m g.iter = some l)
    (hgens : gensG evf itf scope k (g :: gs) (inner scope m) l = some rs) (hlim : rs.flatten.length ≤ lim) (K : IsComp e (g :: gs) emit) (hfree : o₀.isFreed = false)
    (hnew : ∀ (s : Shared) (E : Value → Shared → Prop) (Q : Value → Shared → Prop), Q (.ref s.heap.objs.size) { s with heap := s.heap.push o₀ } → wpAny (model prog w) A newAcc Q E s)
    (GA : ∀ (cenv : Env) (stor : Str → Bool) (Da : Addr), cenv.scope = relabelS scope env.scope → AccOk prog w h₀ N cenv stor B Da s (emit (.ref Da) cenv) k (G Da)) (G0 : ∀ Da Bn h, h.get? Da = some o₀ → G Da Bn [] h)
    (hQ : ∀ (C Da : Addr) (s' : Shared), (∀ b o, s.heap.get? b = some o → b < Da) → s.heap.get? C = none → s.heap.get? Da = none → C ≠ Da → (∃ ml, s'.heap.Ns C ml) → Keeps s s' → G Da (fun b => (B b ∨ b = C) ∨ b = Da) rs.flatten s'.heap → (∀ out' h h' Bn Bn', G Da Bn out' h → (∀ b o, (b = Da ∨ ¬ Bn b) → h.get? b = some o → h'.get? b = some o) → (∀ b o, ¬ Bn b → h.get? b = some o → ¬ Bn' b) → G Da Bn' out' h') →
      compPost (model prog w) A E use Q (.ref Da) C (.ok .next) s') :
    wpAny (model prog w) A (comprehension e scope env pos newAcc false (eval g.iter env) use) Q E s := by
  obtain ⟨hk1, hk2, hnm, hnames⟩ := scope_parts hsc
  obtain ⟨hns, hiter⟩ := HO.it m g.iter l A B s hit hA f
  have hclos : closureFor scope env = pure (closeL env scope.names []) := closureFor_eq fun x hx hfree => by
    obtain ⟨x, k⟩ := x
    simp only at hfree; subst hfree
    exact f.cell x ((hnames x _ hx).2 rfl)
  refine wpAny_comprehension_free K.cl (folded_plain hns env) hclos hk1 (fun x hx hl => by obtain ⟨x, k⟩ := x; simp only at hl; subst hl; exact (hnames x _ hx).1) ?_
  refine hiter E _ ?_
  rintro it s₂ ⟨I, wr, St0, rfl, k₂, hwr, hsrc⟩
  refine hnew _ _ _ ?_
  refine newCompEnv ?_
  -- the accumulator
  generalize hDa : s₂.heap.objs.size = Da
  generalize hh3 : s₂.heap.push o₀ = h3
  have hDa0 : s₂.heap.get? Da = none := by rw [← hDa]; exact get?_size _
  have hDaLt : ∀ b o, s.heap.get? b = some o → b < Da := fun b o e => by rw [← hDa]; exact Heap.lt_size (kp_heap k₂ b o e)
  have hDaL : h3.get? Da = some o₀ := by rw [← hh3, ← hDa]; exact Heap.get?_push_size _ hfree
  have hk23 : ∀ b o, s₂.heap.get? b = some o → h3.get? b = some o := fun b o e => by rw [← hh3]; exact Heap.get?_push_of_some _ e
  have hk13 : ∀ b o, s.heap.get? b = some o → h3.get? b = some o := fun b o e => hk23 b o (kp_heap k₂ b o e)
  have none_s : ∀ b, s₂.heap.get? b = none → s.heap.get? b = none := fun b hb => by
    cases e : s.heap.get? b with
    | none => rfl
    | some o => rw [kp_heap k₂ b o e] at hb; cases hb
  have noneB : ∀ b, s.heap.get? b = none → ¬ B b := fun b hb q => by obtain ⟨o, ho⟩ := f.hi b q; rw [hb] at ho; cases ho
  have hX0none : ∀ b, (b = Da ∨ b ∈ wr) → s.heap.get? b = none := by
    rintro b (rfl | hb)
    · exact none_s _ hDa0
    · exact (hwr b hb).1
  have hX0ex : ∀ b, (b = Da ∨ b ∈ wr) → ∃ o, h3.get? b = some o := by
    rintro b (rfl | hb)
    · exact ⟨_, hDaL⟩
    · obtain ⟨o, ho⟩ := (hwr b hb).2; exact ⟨o, hk23 b o ho⟩
  have hbase0 : ∀ b, s.heap.get? b = none → h₀.get? b = none := fun b hb => by
    cases e : h₀.get? b with
    | none => rfl
    | some o => rw [f.base b o e] at hb; cases hb
  have f3 : FE w h₀ env (fun b => B b ∨ (b = Da ∨ b ∈ wr)) m h3 := {
    kind := f.kind
    gl := f.gl
    bl := f.bl
    nm := f.nm
    base := fun b o e => hk13 b o (f.base b o e)
    hi := fun b hb => by
      rcases hb with hb | hb
      · obtain ⟨o, ho⟩ := f.hi b hb; exact ⟨o, hk13 b o ho⟩
      · exact hX0ex b hb
    lo := fun b hb => by
      rcases hb with hb | hb
      · exact f.lo b hb
      · exact hbase0 b (hX0none b hb)
    var := fun x d e => by
      obtain ⟨v, hv, rv⟩ := f.var x d e
      refine ⟨v, hv.keep hk13, RV.step (fun b o nb e => ⟨hk13 b o e, fun q => ?_⟩) d v rv⟩
      rcases q with q | q
      · exact nb q
      · rw [hX0none b q] at e; cases e
    cell := f.cell
    cex := fun x c e => let ⟨o, ho⟩ := f.cex x c e; ⟨o, hk13 c o ho⟩ }
  obtain ⟨hkeep, FRc, famNone, cellsAt⟩ := comp_frame hsc f3 (fun b hb q => noneB b (hX0none b q) hb)
  generalize hcenv : compEnvM scope env h3.objs.size = cenv at FRc famNone cellsAt
  have hcl : cenv.locals = h3.objs.size := by rw [← hcenv]; rfl
  have hcsc : cenv.scope = relabelS scope env.scope := by rw [← hcenv]; rfl
  generalize hh4 : pushCells (h3.push { cls := .type "dict", data := .dict #[] }) scope.names = h4 at hkeep FRc
  have src := hsrc (fun b => B b ∨ ((b = Da ∨ b ∈ wr) ∨ Fam cenv (storS scope) b)) (fun b hb => .inr (.inl (.inr hb))) (fun b hb => by
    rcases hb with hb | (rfl | hb) | hb
    · exact .inl hb
    · exact .inr (.inr hDa0)
    · exact .inr (.inl hb)
    · refine .inr (.inr ?_)
      cases e : s₂.heap.get? b with
      | none => rfl
      | some o => have := famNone b hb; rw [hk23 b o e] at this; cases this)
  obtain ⟨src, hSt⟩ := src
  have notFamDa : ¬ Fam cenv (storS scope) Da := fun q => by have := famNone Da q; rw [hDaL] at this; cases this
  have hDc : ∀ x c, cenv.cells.lookup x = some c → c ≠ Da := by
    rintro x c hc rfl
    rcases cellsAt x c hc with h | ⟨_, h⟩
    · rw [hDaL] at h; cases h
    · obtain ⟨o, ho⟩ := f.cex x c h
      rw [hX0none c (.inl rfl)] at ho; cases ho
  have hwr' : ∀ b ∈ wr, ((b = Da ∨ b ∈ wr) ∨ Fam cenv (storS scope) b) ∧ b ≠ cenv.locals ∧ b ≠ Da ∧ ∀ x c, cenv.cells.lookup x = some c → c ≠ b := by
    intro b hb
    obtain ⟨o, ho⟩ := (hwr b hb).2
    refine ⟨.inl (.inr hb), ?_, ?_, ?_⟩
    · rw [hcl]; exact Nat.ne_of_lt (Heap.lt_size (hk23 b o ho))
    · rintro rfl; rw [hDa0] at ho; cases ho
    · rintro x c hc rfl
      rcases cellsAt x c hc with h | ⟨_, h⟩
      · rw [hk23 c o ho] at h; cases h
      · obtain ⟨o', ho'⟩ := f.cex x c h
        rw [(hwr c hb).1] at ho'; cases ho'
  have hg4 : ∀ b o, s₂.heap.get? b = some o → h4.get? b = some o := fun b o e => hkeep b o (hk23 b o e)
  have hst : ∀ x, kd scope x = some .local ∨ kd scope x = some .cell → storS scope x = true ∧ (cenv.kindOf x = some .local ∨ cenv.kindOf x = some .cell) := by
    intro x hx
    have e1 : cenv.kindOf x = (kd scope x).map (relK env.scope x) := by
      show kd cenv.scope x = _
      rw [hcsc]; exact relabelS_kd _ _ _
    rcases hx with hx | hx
    · exact ⟨by simp [storS, hx], .inl (by rw [e1, hx]; rfl)⟩
    · exact ⟨by simp [storS, hx], .inr (by rw [e1, hx]; rfl)⟩
  obtain ⟨tg, ig, fg, ag⟩ := g
  obtain ⟨rfl, _⟩ := gensG_eq _ _ _ _ _ _ _ _ _ _ _ _ hgens
  have hDane : Da ≠ cenv.locals := by rw [hcl]; exact Nat.ne_of_lt (Heap.lt_size hDaL)
  have henv : ({ newEnv scope h3.objs.size env.globals (cellsFrom (h3.objs.size + 1) scope.names (closeL env scope.names [])) env.qual none .none (some env) builtinsNs with scope := relabel scope env } : Env) = cenv := hcenv
  have hGL : G Da (fun b => B b ∨ ((b = Da ∨ b ∈ wr) ∨ Fam cenv (storS scope) b)) [] h4 := G0 Da _ h4 (hkeep _ _ hDaL)
  have hSt4 : St0 (fun b => B b ∨ ((b = Da ∨ b ∈ wr) ∨ Fam cenv (storS scope) b)) 0 h4 := src.frame 0 _ _ (fun _ => False) hSt (fun _ hb => hb.elim) (fun b o _ e => hg4 b o e)
  have goal : codeAny (model prog w) A (.compStart e 0 (.ref I) (.ref Da) cenv) (compPost (model prog w) A E use Q (.ref Da) h3.objs.size) { s₂ with heap := h4 } := by
    refine start_ok K rfl (fun E Q hq => src.self 0 _ E Q hSt4 hq) ?_
    refine loop_ok (sA := s) (B₀ := B) (stor := storS scope) (scope := scope) K (HI cenv hcsc) hA (GA cenv (storS scope) Da hcsc) hst hDane hDc notFamDa gs 0 ⟨tg, ig, fg, 0⟩ (inner scope m) l rs { s₂ with heap := h4 }
      (fun b => (b = Da ∨ b ∈ wr) ∨ Fam cenv (storS scope) b) I wr (St0 _) [] _ rfl hgens (by simpa using hlim) src hwr' FRc (.inl (.inl rfl)) hGL hSt4 (fun b hb => let ⟨o, ho⟩ := hb; ⟨o, hg4 b o (kp_heap k₂ b o ho)⟩) ?_
    intro s' k' ex' f' hG'
    rw [List.nil_append] at hG'
    rw [← hcl]
    have hkeepS : Keeps s s' := by
      obtain ⟨h', tk', rfl, hk'⟩ := k'
      obtain ⟨h2, tk2, rfl, hk2⟩ := k₂
      refine ⟨h', tk', rfl, fun b o e => hk' b o (fun q => ?_) (hg4 b o (hk2 b o e))⟩
      rcases q with q | q | q
      · have := famNone b q; rw [hk13 b o e] at this; cases this
      · rw [hX0none b (.inl q)] at e; cases e
      · rw [hX0none b (.inr q)] at e; cases e
    have hCnone : s.heap.get? cenv.locals = none := by
      cases e : s.heap.get? cenv.locals with
      | none => rfl
      | some o => have := famNone _ (.inl rfl); rw [hk13 _ o e] at this; cases this
    refine hQ cenv.locals Da s' (fun b o e => hDaLt b o e) hCnone (hX0none Da (.inl rfl)) (Ne.symm hDane) f'.loc hkeepS ((GA cenv (storS scope) Da hcsc).step _ _ _ _ _ hG' (fun b o _ e => e) (fun b o nb e q => ?_)) (fun out' h h' Bn Bn' g1 g2 g3 => (GA cenv (storS scope) Da hcsc).step _ _ _ _ _ g1 g2 g3)
    rcases q with (q | q) | q
    · exact nb (.inl q)
    · exact nb (.inr ⟨.inr (.inl q), fun hbw => (hwr' b hbw).2.1 q⟩)
    · exact nb (.inr ⟨.inl (.inl q), fun hbw => (hwr' b hbw).2.2.1 q⟩)
  rw [← henv] at goal
  subst hh4 hh3 hDa
  exact goal

theorem compL_ok {h₀ : Heap} {N : Nat} {evf : PE → Expr → Option D} {itf : PE → Expr → Option (List D)} {itO : PE → Expr → Option (List D)} {evO : PE → Expr → Option D} {env : Env} {B : Addr → Prop} {elt : Expr} {g : Comprehension} {gs : List Comprehension} {scope : Scope} {pos p0 : Pos}
    {m : PE} {l : List D} {rs : List (List D)} {s : Shared} {use : Option (Value → Sem Unit)} {E : Value → Shared → Prop} {Q : Value → Shared → Prop}
    (hA : AOk A N) (HO : EvOk prog w h₀ N evO itO env) (HI : ∀ env' : Env, env'.scope = relabelS scope env.scope → EvOk prog w h₀ N evf itf env') (f : FE w h₀ env B m s.heap)
    (hsc : scopeOk scope env.scope = true) (hit : itO m g.iter = some l)
    (hgens : gensG evf itf scope (fun m' => (evf m' elt).map fun d => [d]) (g :: gs) (inner scope m) l = some rs) (hlim : rs.flatten.length ≤ lim)
    (hQ : ∀ (C : Addr) (v : Value) (s' : Shared), s.heap.get? C = none → (∃ ml, s'.heap.Ns C ml) → Keeps s s' → Fresh w s (fun b => B b ∨ b = C) rs.flatten v s'.heap → (v ≠ .ref C) → (isFresh elt = true → Fresh2 s v s'.heap) →
      compPost (model prog w) A E use Q v C (.ok .next) s') :
    wpAny (model prog w) A (comprehension (.ListComp elt (g :: gs) scope pos) scope env p0 (newList []) false (eval g.iter env) use) Q E s := by
  refine comp_gen (k := fun m' => (evf m' elt).map fun d => [d]) (G := fun Da => GL w s Da (isFresh elt)) hA HO HI f hsc hit hgens hlim (isComp_L elt (g :: gs) scope pos) (o₀ := { cls := .type "list", dict := none, data := .seq ([] : List Value).toArray }) rfl
    (fun s E Q hq => wpAny_newObj_type hq) (fun cenv stor Da hc => accL_ok (HI cenv hc)) (fun Da Bn h hD => ⟨[], 0, hD, .nil, fun _ => ⟨[], rfl, .nil, by simp⟩⟩) ?_
  rintro C Da s' _ hC hDa hne hns hk ⟨ys, n, hl', rs', hfr⟩ _
  refine hQ C (.ref Da) s' hC hns hk ⟨Da, ys, n, rfl, hDa, hl', rs', hlim⟩ (fun q => hne (by injection q with q; exact q.symm)) (fun hf => ?_)
  obtain ⟨as, h1, h2, h3⟩ := hfr hf
  subst h1
  exact ⟨Da, as, n, rfl, hDa, h2, fun hm => (h3 Da hm).2 rfl, fun b hb => (h3 b hb).1, hl'⟩
end

end Mine

end

section
open PySem PySem.W PyProof.Rows PySem.SeqAt
set_option Elab.async false
namespace Mine

/-- a kind of keys -/
structure KK (prog : Program) (w : World) (K : Type) [DecidableEq K] where
  knd : KeyKind prog w K
  f : K → D
  ok : K → Prop
  toIs : ∀ {h : Heap} {B : Addr → Prop} {k : K} {v : Value}, RV w h B (f k) v → knd.is k v = true ∧ ok k
  ofIs : ∀ {h : Heap} {B : Addr → Prop} {k : K} {v : Value}, knd.is k v = true → ok k → RV w h B (f k) v
  eq : ∀ a b : K, eqS (f a) (f b) = some (decide (a = b))
  chk : D → Bool
  chkIs : ∀ a, chk a = true → ∃ k, a = f k
  hash : ∀ {kvs : List (K × Value)} {es : List DictEntry}, (kvs.map (·.1)).Nodup → (∀ e ∈ es, ∃ k, knd.is k e.key = true ∧ e.hash = knd.hash k) → HashOk w (kvs.map fun p => f p.1) es

noncomputable def kStr (prog : Program) (w : World) : KK prog w Str where
  knd := strKind prog w
  f := .str
  ok := fun x => x.length ≤ lim
  toIs := fun {h B k v} r => by obtain ⟨t, rfl, hl⟩ := r.str_inv; exact ⟨strKind_is prog w k t, hl⟩
  ofIs := fun {h B k v} h1 h2 => by obtain ⟨t, rfl⟩ := Value.isStrOf_shape h1; exact rv_str h2
  eq := fun a b => rfl
  chk := isStrD
  chkIs := fun a h => by cases a <;> simp [isStrD] at h; exact ⟨_, rfl⟩
  hash := fun {kvs es} hn hk => .inl ⟨kvs.map (·.1), by simp, hn, fun e he => by
    obtain ⟨k, h1, h2⟩ := hk e he
    obtain ⟨t, ht⟩ := Value.isStrOf_shape h1
    exact ⟨k, t, ht, h2⟩⟩
noncomputable def kInt (prog : Program) (w : World) : KK prog w Int where
  knd := intKind prog w
  f := .int
  ok := fun _ => True
  toIs := fun {h B k v} r => by obtain ⟨t, rfl⟩ := r.int_inv; exact ⟨intKind_is prog w k t, trivial⟩
  ofIs := fun {h B k v} h1 h2 => by obtain ⟨t, rfl⟩ := Value.isInt_shape h1; exact rv_int
  eq := fun a b => rfl
  chk := isIntD
  chkIs := fun a h => by cases a <;> simp [isIntD] at h; exact ⟨_, rfl⟩
  hash := fun {kvs es} hn hk => .inr ⟨kvs.map (·.1), by simp, hn, fun e he => by
    obtain ⟨k, h1, h2⟩ := hk e he
    obtain ⟨t, ht⟩ := Value.isInt_shape h1
    exact ⟨k, t, ht, h2⟩⟩

section
variable {prog : Program} {w : World} {A : Around} {K : Type} [DecidableEq K] (kk : KK prog w K)

theorem rv_dict {h : Heap} {B : Addr → Prop} {a : Addr} {kvs : List (K × Value)} {vs : List D} (hD : h.DictOf kk.knd a kvs) (hok : ∀ p ∈ kvs, kk.ok p.1) (rv : RVs w h B vs (kvs.map (·.2))) (nb : ¬ B a) (hs : a ≠ sysModules) :
    RV w h B (.dict (kvs.map fun p => kk.f p.1) vs) (.ref a) := by
  obtain ⟨⟨cls, dd, data, sl⟩, es, ep, ho, ⟨h1, h2, h3⟩, hd, hk, hp, hn⟩ := hD
  simp only at h1 h2 h3 hd
  subst h1 h2 h3 hd
  simp only [RV]
  have key : ∀ (es : List DictEntry) (kvs : List (K × Value)), Pairs kk.knd es kvs → (∀ p ∈ kvs, kk.ok p.1) → RVs w h B (kvs.map fun p => kk.f p.1) (es.map (·.key)) ∧ es.map (·.val) = kvs.map (·.2) := by
    intro es kvs hp
    induction hp with
    | nil => intro _; exact ⟨.nil, rfl⟩
    | cons h1 h2 _ ih =>
      intro hok
      obtain ⟨g1, g2⟩ := ih fun p hp => hok p (List.mem_cons_of_mem _ hp)
      exact ⟨.cons (kk.ofIs h1 (hok _ List.mem_cons_self)) g1, by simp [h2, g2]⟩
  obtain ⟨g1, g2⟩ := key es.toList kvs hp hok
  exact ⟨a, es, ep, rfl, nb, hs, ho, g1, by rw [g2]; exact rv, kk.hash hn fun e he => hk e (Array.mem_toList_iff.mp he)⟩

theorem put_stored : ∀ (kvs : List (K × Value)) (vs : List D) (k : K) (v : D) (x : Value) (ks' vs' : List D) {h : Heap} {B : Addr → Prop}, (kvs.map (·.1)).Nodup → RVs w h B vs (kvs.map (·.2)) → RV w h B v x →
    putD (kvs.map fun p => kk.f p.1) vs (kk.f k) v = some (ks', vs') → ks' = (stored kvs k x).map (fun p => kk.f p.1) ∧ RVs w h B vs' ((stored kvs k x).map (·.2))
  | [], vs, k, v, x, ks', vs', h, B, _, rs, rv, e => by
    have := rs.length; simp at this
    have : vs = [] := List.length_eq_zero_iff.mp this.symm
    subst this
    cases e
    exact ⟨rfl, .one rv⟩
  | (k', x') :: kvs, vs, k, v, x, ks', vs', h, B, hn, rs, rv, e => by
    cases vs with
    | nil => have := rs.length; simp at this
    | cons v' vs =>
      rw [List.map_cons] at rs e
      obtain ⟨y, ys, hy, r1, r2⟩ := rs.uncons
      cases hy
      rw [List.map_cons, List.nodup_cons] at hn
      unfold putD at e
      rw [kk.eq] at e
      by_cases hkk : k' = k
      · subst hkk
        simp only [decide_true] at e
        cases e
        have hany : ((k', x') :: kvs).any (fun kv => decide (kv.1 = k')) = true := by simp
        have hrest : kvs.map (fun kv => if kv.1 = k' then (kv.1, x) else kv) = kvs := by
          conv => rhs; rw [← List.map_id kvs]
          apply List.map_congr_left
          rintro ⟨a, b⟩ hm
          have : a ≠ k' := fun q => hn.1 (List.mem_map.mpr ⟨(a, b), hm, q⟩)
          simp [this]
        unfold stored
        rw [if_pos hany, List.map_cons, hrest]
        simp only [if_true, List.map_cons]
        exact ⟨trivial, .cons rv r2⟩
      · simp only [hkk, decide_false] at e
        cases hp : putD (kvs.map fun p => kk.f p.1) vs (kk.f k) v with
        | none => rw [hp] at e; cases e
        | some p =>
          obtain ⟨ks'', vs''⟩ := p
          rw [hp] at e; cases e
          obtain ⟨g1, g2⟩ := put_stored kvs vs k v x ks'' vs'' hn.2 r2 rv hp
          have hst : stored ((k', x') :: kvs) k x = (k', x') :: stored kvs k x := by
            unfold stored
            rw [List.any_cons]
            simp only [hkk, decide_false, Bool.false_or]
            split
            · rw [List.map_cons]; simp [hkk]
            · rfl
          rw [hst]
          subst g1
          exact ⟨rfl, .cons r1 g2⟩

theorem dictG_merged : ∀ (ps : List (K × D)) (xs : List Value) (kvs : List (K × Value)) (vs ks' vs' : List D) {h : Heap} {B : Addr → Prop}, (kvs.map (·.1)).Nodup → RVs w h B vs (kvs.map (·.2)) → RVs w h B (ps.map (·.2)) xs → (∀ p ∈ kvs, kk.ok p.1) → (∀ p ∈ ps, kk.ok p.1) →
    dictG (kvs.map fun p => kk.f p.1) vs (ps.map fun p => (kk.f p.1, p.2)) = some (ks', vs') →
    let m := merged kvs ((ps.map (·.1)).zip xs)
    ks' = m.map (fun p => kk.f p.1) ∧ RVs w h B vs' (m.map (·.2)) ∧ (∀ p ∈ m, kk.ok p.1)
  | [], xs, kvs, vs, ks', vs', h, B, hn, rs, rx, hok, hok', e => by
    cases e
    have : xs = [] := List.length_eq_zero_iff.mp rx.length
    subst this
    exact ⟨rfl, rs, hok⟩
  | (k, d) :: ps, xs, kvs, vs, ks', vs', h, B, hn, rs, rx, hok, hok', e => by
    rw [List.map_cons] at rx e
    obtain ⟨x, xs', rfl, r1, r2⟩ := rx.uncons
    unfold dictG at e
    cases hp : putD (kvs.map fun p => kk.f p.1) vs (kk.f k) d with
    | none => simp only [hp] at e; cases e
    | some p =>
      obtain ⟨ks1, vs1⟩ := p
      simp only [hp] at e
      obtain ⟨rfl, g2⟩ := put_stored kk kvs vs k d x ks1 vs1 hn rs r1 hp
      have hn' : ((stored kvs k x).map (·.1)).Nodup := by
        unfold stored
        split
        · have : (kvs.map (fun kv => if kv.1 = k then (kv.1, x) else kv)).map (·.1) = kvs.map (·.1) := by
            rw [List.map_map]; apply List.map_congr_left; intro p _; simp only [Function.comp]; split <;> rfl
          rw [this]; exact hn
        · rename_i hno
          rw [List.map_append, List.nodup_append]
          refine ⟨hn, by simp, ?_⟩
          intro a ha b hb hab
          simp at hb; subst hb; subst hab
          apply hno
          obtain ⟨p, hpm, rfl⟩ := List.mem_map.mp ha
          rw [List.any_eq_true]
          exact ⟨p, hpm, by simp⟩
      have hok1 : ∀ p ∈ stored kvs k x, kk.ok p.1 := by
        unfold stored
        split
        · intro p hp
          obtain ⟨q, hq, rfl⟩ := List.mem_map.mp hp
          split
          · exact hok q hq
          · exact hok q hq
        · intro p hp
          rcases List.mem_append.mp hp with hp | hp
          · exact hok p hp
          · simp at hp; subst hp; exact hok' (k, d) List.mem_cons_self
      exact dictG_merged ps xs' (stored kvs k x) vs1 ks' vs' hn' g2 r2 hok1 (fun p hp => hok' p (List.mem_cons_of_mem _ hp)) e

theorem dictOf_nodup {h : Heap} {a : Addr} {kvs : List (K × Value)} (hD : h.DictOf kk.knd a kvs) : (kvs.map (·.1)).Nodup := let ⟨_, _, _, _, _, _, _, _, hn⟩ := hD; hn
theorem dictOf_at {h h' : Heap} {a : Addr} {kvs : List (K × Value)} (hD : h.DictOf kk.knd a kvs) (hk : ∀ o, h.get? a = some o → h'.get? a = some o) : h'.DictOf kk.knd a kvs := let ⟨o, es, ep, ho, r⟩ := hD; ⟨o, es, ep, hk o ho, r⟩

/-- the dict that a comprehension fills -/
inductive GD (sA : Shared) (Da : Addr) (Bn : Addr → Prop) (out : List D) (h : Heap) : Prop where
  | mk (ps : List (K × D)) (kvs : List (K × Value)) (vs : List D) : out = (ps.map fun p => [kk.f p.1, p.2]).flatten → h.DictOf kk.knd Da kvs → dictG [] [] (ps.map fun p => (kk.f p.1, p.2)) = some (kvs.map fun p => kk.f p.1, vs) →
    RVs w h Bn vs (kvs.map (·.2)) → (∀ p ∈ kvs, kk.ok p.1) → kvs.length ≤ ps.length → GD sA Da Bn out h

theorem dictG_append : ∀ (l l' : List (D × D)) (ks vs : List D), dictG ks vs (l ++ l') = (dictG ks vs l).bind fun p => dictG p.1 p.2 l'
  | [], l', ks, vs => rfl
  | p :: l, l', ks, vs => by
    rw [List.cons_append]
    simp only [dictG]
    cases putD ks vs p.1 p.2 with
    | none => rfl
    | some q => exact dictG_append l l' q.1 q.2

theorem accD_ok {h₀ : Heap} {N : Nat} {evf : PE → Expr → Option D} {itf : PE → Expr → Option (List D)} {env : Env} {stor : Str → Bool} {B₀ : Addr → Prop} {Da : Addr} {sA : Shared} {k v : Expr} (H : EvOk prog w h₀ N evf itf env) :
    AccOk prog w h₀ N env stor B₀ Da sA (emitD k v (.ref Da) env) (emitG kk.chk evf k v) (GD kk sA Da) where
  step := by
    rintro Bn Bn' out h h' ⟨ps, kvs, vs, h1, h2, h3, h4, h5, h6⟩ hk hb
    exact ⟨ps, kvs, vs, h1, dictOf_at kk h2 fun o e => hk Da o (.inl rfl) e, h3, RVs.step (fun b o nb e => ⟨hk b o (.inr nb) e, hb b o nb e⟩) _ _ h4, h5, h6⟩
  here := by rintro Bn out h ⟨ps, kvs, vs, h1, ⟨o, _, _, ho, _⟩, _⟩; exact ⟨o, ho⟩
  emit := by
    rintro A m ds out s Mt E Q hA hex hk hlen f hMD ⟨ps, kvs, vs, h1, h2, h3, h4, h5, h6⟩ hQ
    unfold emitG at hk
    cases hek : evf m k with
    | none => simp only [hek] at hk; cases hk
    | some a =>
      cases hev : evf m v with
      | none => simp only [hek, hev] at hk; cases hk
      | some b =>
        simp only [hek, hev] at hk
        split at hk <;> cases hk
        rename_i hchk
        obtain ⟨x, rfl⟩ := kk.chkIs a hchk
        unfold emitD
        refine wpAny_bind ((H.ev m k _ A _ s hek hA f.fe).use fun kv s₁ k₁ hp => ?_)
        obtain ⟨rk, _⟩ := hp
        refine wpAny_bind (wpAny_holding ((H.ev m v _ A _ s₁ hev hA (f.fe.keep (kp_heap k₁))).use fun vv s₂ k₂ hp => ?_))
        obtain ⟨rv, _⟩ := hp
        obtain ⟨his, hxok⟩ := kk.toIs rk
        refine wpAny_bind (wpAny_standAt (wpAny_holding ?_))
        have hD₂ : s₂.heap.DictOf kk.knd Da kvs := dictOf_at kk h2 fun o e => kp_heap k₂ _ o (kp_heap k₁ _ o e)
        have hlen2 : ps.length + ps.length ≤ lim := by
          have : ((ps.map fun p => [kk.f p.1, p.2]).flatten).length = ps.length + ps.length := by
            clear hQ h3 h6 h1 hlen
            induction ps with
            | nil => rfl
            | cons p ps ih => simp at ih ⊢; omega
          rw [h1] at hlen
          have : ([kk.f x, b] : List D).length = 2 := rfl
          omega
        refine wpAny_dictSet_pairs (hsz := lim_le (by omega)) his hD₂ fun h₃ hD₃ hs₃ => ?_
        have hk₃ : ∀ b o, b ≠ Da → s.heap.get? b = some o → h₃.get? b = some o := fun b o nb e => sameBut_keep hs₃ b o nb (kp_heap k₂ b o (kp_heap k₁ b o e))
        have hk₃' : ∀ b o, ¬ (B₀ b ∨ Mt b) → s₂.heap.get? b = some o → h₃.get? b = some o := fun b o nb e => sameBut_keep hs₃ b o (fun q => nb (.inr (q ▸ hMD))) e
        have exDa : ∃ o, h₃.get? Da = some o := by obtain ⟨o, _, _, ho, _⟩ := hD₃; exact ⟨o, ho⟩
        have rs₂ := (h4.keep (kp_heap k₁)).keep (kp_heap k₂)
        have hput : ∃ ks1 vs1, putD (kvs.map fun p => kk.f p.1) vs (kk.f x) b = some (ks1, vs1) := by
          clear hQ h3
          have hl : kvs.length = vs.length := by have := h4.length; simpa using this
          clear h4 rs₂ hD₂ hD₃ h2 h5 h6
          induction kvs generalizing vs with
          | nil => cases vs with
            | nil => exact ⟨_, _, rfl⟩
            | cons _ _ => simp at hl
          | cons p kvs ih => cases vs with
            | nil => simp at hl
            | cons u vs =>
              obtain ⟨ks1, vs1, he⟩ := ih vs (by simpa using hl)
              rw [List.map_cons]
              unfold putD
              rw [kk.eq, he]
              by_cases hpx : p.1 = x
              · simp [hpx]
              · simp [hpx]
        obtain ⟨ks1, vs1, hput⟩ := hput
        obtain ⟨rfl, g2⟩ := put_stored kk kvs vs x b vv ks1 vs1 (dictOf_nodup kk h2) rs₂ rv hput
        have g2' : RVs w h₃ (fun b => B₀ b ∨ Mt b) vs1 ((stored kvs x vv).map (·.2)) := RVs.step (fun b o nb e => ⟨hk₃' b o nb e, nb⟩) _ _ g2
        obtain ⟨hh1, tk1, rfl, hk1⟩ := k₁
        obtain ⟨hh2, tk2, rfl, hk2⟩ := k₂
        refine hQ _ ⟨h₃, _, rfl, fun b o nb e => hk₃ b o nb e⟩ (fun b' hb' => ?_) ⟨ps ++ [(x, b)], stored kvs x vv, vs1, by rw [h1]; simp, hD₃, ?_, g2', ?_, ?_⟩
        · by_cases hbD : b' = Da
          · subst hbD; exact exDa
          · obtain ⟨o, ho⟩ := hb'; exact ⟨o, hk₃ b' o hbD ho⟩
        · rw [List.map_append, dictG_append, h3]
          simp only [Option.bind_some, List.map_cons, List.map_nil, dictG, hput]
        · unfold stored
          split
          · intro p hp
            obtain ⟨q, hq, rfl⟩ := List.mem_map.mp hp
            split
            · exact h5 q hq
            · exact h5 q hq
          · intro p hp
            rcases List.mem_append.mp hp with hp | hp
            · exact h5 p hp
            · simp at hp; subst hp; exact hxok
        · have := stored_length_le kvs x vv
          simp only [List.length_append, List.length_cons, List.length_nil]; omega
end

end Mine

end

section
open PySem PySem.W PyProof.Rows PySem.SeqAt
set_option Elab.async false
namespace Mine

section
variable {prog : Program} {w : World} {A : Around} {K : Type} [DecidableEq K] (kk : KK prog w K)

theorem pairUp_flat {K : Type} (f : K → D) : ∀ ps : List (K × D), pairUp (ps.map fun p => [f p.1, p.2]).flatten = some (ps.map fun p => (f p.1, p.2))
  | [] => rfl
  | p :: ps => by
    simp only [List.map_cons, List.flatten_cons, List.cons_append, List.nil_append, pairUp, pairUp_flat f ps, Option.map_some]

theorem pairUp_length : ∀ (l : List D) (ps : List (D × D)), pairUp l = some ps → l.length = 2 * ps.length
  | [], ps, e => by cases e; rfl
  | [_], ps, e => by cases e
  | a :: b :: r, ps, e => by
    unfold pairUp at e
    cases h : pairUp r with
    | none => rw [h] at e; cases e
    | some q => rw [h] at e; cases e; have := pairUp_length r q h; simp; omega

theorem compD_ok {h₀ : Heap} {N : Nat} {evf : PE → Expr → Option D} {itf : PE → Expr → Option (List D)} {itO : PE → Expr → Option (List D)} {evO : PE → Expr → Option D} {env : Env} {B : Addr → Prop} {k v : Expr} {g : Comprehension} {scope : Scope} {pos p0 : Pos}
    {m : PE} {l : List D} {d : D} {s : Shared} (hm : ∃ o, h₀.get? mainGlobals = some o)
    (hA : AOk A N) (HO : EvOk prog w h₀ N evO itO env) (HI : ∀ env' : Env, env'.scope = relabelS scope env.scope → EvOk prog w h₀ N evf itf env') (f : FE w h₀ env B m s.heap)
    (hsc : scopeOk scope env.scope = true) (hit : itO m g.iter = some l)
    (hgens : dictOfG (gensG evf itf scope (emitG kk.chk evf k v) [g] (inner scope m) l) = some d) :
    Yields prog w A (comprehension (.DictComp k v [g] scope pos) scope env p0 newDict false (eval g.iter env) none) s (fun v h => RV w h B d v) := by
  unfold dictOfG at hgens
  split at hgens
  · cases hgens
  rename_i rs hrs
  split at hgens
  · cases hgens
  rename_i ps hps
  split at hgens
  case isFalse => cases hgens
  rename_i hlen
  have hl2 := pairUp_length _ _ hps
  refine comp_gen (k := emitG kk.chk evf k v) (G := fun Da => GD kk s Da) hA HO HI f hsc hit hrs (by unfold lim; omega) (isComp_D k v [g] scope pos) (o₀ := { cls := .type "dict", data := .dict #[] }) rfl
    (fun s E Q hq => wpAny_newObj_type hq) (fun cenv stor Da hc => accD_ok kk (HI cenv hc)) (fun Da Bn h hD => ⟨[], [], [], rfl, ⟨_, _, _, hD, ⟨rfl, rfl, rfl⟩, rfl, fun e he => absurd he (Array.not_mem_empty e), .nil, .nil⟩, rfl, .nil, fun p hp => absurd hp List.not_mem_nil, Nat.le_refl _⟩) ?_
  rintro C Da s' hlt hC hDa hne hns hk ⟨ps', kvs, vs, h1, h2, h3, h4, h5, h6⟩ _
  rw [h1, pairUp_flat] at hps
  cases hps
  rw [h3] at hgens
  cases hgens
  obtain ⟨ml, hml⟩ := hns
  refine ⟨ml, hml, fun h' hs' => ?_⟩
  have hDaB : ¬ B Da := fun q => by obtain ⟨o, ho⟩ := f.hi Da q; rw [hDa] at ho; cases ho
  have hsys : Da ≠ sysModules := by
    obtain ⟨o, ho⟩ := hm
    have := hlt _ _ (f.base _ _ ho)
    intro q; subst q
    exact absurd this (by decide)
  have rv := rv_dict kk (B := B) h2 h5 (h4.less fun b hb => .inl (.inl hb)) hDaB hsys
  have kC : ∀ b o, s.heap.get? b = some o → h'.get? b = some o := fun b o e => sameBut_keep hs' b o (fun q => by subst q; rw [hC] at e; cases e) (kp_heap hk b o e)
  obtain ⟨hh, tk, rfl, hk'⟩ := hk
  refine ⟨⟨h', tk, rfl, kC⟩, ?_⟩
  refine rv_dict kk (dictOf_at kk h2 fun o e => sameBut_keep hs' Da o (Ne.symm hne) e) h5 ?_ hDaB hsys
  exact RVs.step (fun b o nb e => ⟨sameBut_keep hs' b o (fun q => nb (.inl (.inr q))) e, fun q => nb (.inl (.inl q))⟩) _ _ h4
end

end Mine

end

section
open PySem PySem.W PyProof.Rows PySem.SeqAt
set_option Elab.async false
namespace Mine

noncomputable def notStar : Expr → Bool
  | .Starred .. => false
  | _ => true
theorem star_eq {e : Expr} (h : notStar e = true) (rest : List Expr) (env : Env) : starEach (e :: rest) env = (false, eval e env) :: starEach rest env := by
  cases e <;> first | rfl | (simp [notStar] at h)

section
variable {prog : Program} {w : World} {A : Around} {h₀ : Heap} {N : Nat} {evf : PE → Expr → Option D} {itf : PE → Expr → Option (List D)} {env : Env} {m : PE} {B : Addr → Prop}


theorem items_ok (H : EvOk prog w h₀ N evf itf env) (hst : ∀ m e d, evf m e = some d → notStar e = true) {pos : Pos} (hA : AOk A N) :
    ∀ (es : List Expr) (ds : List D) (s : Shared), mapMD (evf m) es = some ds → FE w h₀ env B m s.heap → Yields prog w A (spliced (backTo pos (starEach es env))) s (fun vs h => RVs w h B ds vs)
  | [], ds, s, e, f => by cases e; exact wpAny_items_nil ⟨kp_refl s, .nil⟩
  | x :: es, ds, s, e, f => by
    unfold mapMD at e
    split at e
    · cases e
    rename_i d hd
    split at e
    · cases e
    rename_i ds' hds
    cases e
    refine wpAny_items_cons ((H.ev m x d A B s hd hA f).use fun v s₁ k₁ p₁ => ?_) (star_eq (hst m x d hd) es env)
    refine (items_ok H hst hA es ds' s₁ hds (f.keep (kp_heap k₁))).use fun vs s₂ k₂ p₂ => ⟨kp_trans k₁ k₂, .cons (p₁.1.keep (kp_heap k₂)) p₂⟩

theorem stars_all (hst : ∀ m e d, evf m e = some d → notStar e = true) {pos : Pos} : ∀ (es : List Expr) (ds : List D), mapMD (evf m) es = some ds → (backTo pos (starEach es env)).any (·.1) = false ∧ (backTo pos (starEach es env)).length = es.length ∧ (backTo pos (starEach es env)).all (fun x => !x.1) = true
  | [], ds, e => ⟨rfl, rfl, rfl⟩
  | x :: es, ds, e => by
    unfold mapMD at e
    split at e
    · cases e
    rename_i d hd
    split at e
    · cases e
    rename_i ds' hds
    obtain ⟨h1, h2, h3⟩ := stars_all hst (pos := pos) es ds' hds
    rw [star_eq (hst m x d hd) es env]
    have : backTo pos ((false, eval x env) :: starEach es env) = (false, eval x env) :: backTo pos (starEach es env) := rfl
    rw [this]
    refine ⟨?_, ?_, ?_⟩
    · rw [List.any_cons, h1]; rfl
    · rw [List.length_cons, h2, List.length_cons]
    · rw [List.all_cons, h3]; rfl

theorem args_ok (H : EvOk prog w h₀ N evf itf env) (hst : ∀ m e d, evf m e = some d → notStar e = true) {pos : Pos} (hA : AOk A N) (fv : Value) (es : List Expr) (ds : List D) (s : Shared) (e : mapMD (evf m) es = some ds) (f : FE w h₀ env B m s.heap) :
    Yields prog w A (evalArgs fv true (backTo pos (starEach es env)) []) s (fun a h => ∃ vs, a = ⟨vs, []⟩ ∧ RVs w h B ds vs) := by
  have hi := items_ok H hst (pos := pos) hA es ds s e f
  cases es with
  | nil => cases e; exact PySem.evalArgs_none ⟨kp_refl s, _, rfl, .nil⟩
  | cons x es =>
    have hx : notStar x = true := by
      unfold mapMD at e
      split at e
      · cases e
      rename_i d hd
      exact hst m x d hd
    rw [star_eq hx es env] at hi ⊢
    have : backTo pos ((false, eval x env) :: starEach es env) = (false, eval x env) :: backTo pos (starEach es env) := rfl
    rw [this] at hi ⊢
    exact Calls.evalArgs_plain (hi.use fun vs s' k p => ⟨k, vs, rfl, p⟩)

theorem bool_ok (H : EvOk prog w h₀ N evf itf env) {pos : Pos} {op : BoolOp} (hA : AOk A N) :
    ∀ (es : List Expr) (d : D) (s : Shared), boolG op (evf m) es = some d → FE w h₀ env B m s.heap → Yields prog w A (boolOp pos op (evalEach es env)) s (fun v h => RV w h B d v)
  | [], d, s, e, f => by cases e
  | [x], d, s, e, f => (H.ev m x d A B s e hA f).mono fun v s' k p => p.1
  | x :: y :: es, d, s, e, f => by
    unfold boolG at e
    split at e
    · cases e
    rename_i dx hx
    split at e
    · cases e
    rename_i t ht
    show wpAny (model prog w) A (eval x env >>= fun v => standAt pos >>= fun _ => holding [v] (truthy v) >>= fun t => match op, t with | .And, false | .Or, true => pure v | _, _ => boolOp pos op (evalEach (y :: es) env)) _ _ s
    refine wpAny_bind ((H.ev m x dx A B s hx hA f).use fun v s₁ k₁ p₁ => ?_)
    refine wpAny_bind (wpAny_standAt (wpAny_bind (wpAny_holding ((truth_ok p₁.1 ht).use fun t' s₂ k₂ ht' => ?_))))
    subst ht'
    have k := kp_trans k₁ k₂
    have rest : boolG op (evf m) (y :: es) = some d → Yields prog w A (boolOp pos op (evalEach (y :: es) env)) s₂ (fun v h => RV w h B d v) := fun e => bool_ok H hA (y :: es) d s₂ e (f.keep (kp_heap k))
    cases op <;> cases t' <;> simp only at e ⊢
    · cases e; exact wpAny_pure ⟨k, p₁.1.keep (kp_heap k₂)⟩
    · exact (rest e).use fun v s₃ k₃ p₃ => ⟨kp_trans k k₃, p₃⟩
    · exact (rest e).use fun v s₃ k₃ p₃ => ⟨kp_trans k k₃, p₃⟩
    · cases e; exact wpAny_pure ⟨k, p₁.1.keep (kp_heap k₂)⟩

theorem allTrue_ok (H : EvOk prog w h₀ N evf itf env) {op : BoolOp} (hA : AOk A N) :
    ∀ (es : List Expr) (b : Bool) (s : Shared), (boolG op (evf m) es).bind truth = some b → FE w h₀ env B m s.heap → Yields prog w A (allTrue op es env) s (fun c _ => c = b)
  | [], b, s, e, f => by cases e
  | [x], b, s, e, f => by
    have hx : (evf m x).bind truth = some b := e
    cases op
    · refine wpAny_allTrue_And_cons ((H.tr m x b A B s hx hA f).use fun c s₁ k₁ hc => ?_)
      subst hc
      cases c
      · exact ⟨k₁, rfl⟩
      · exact wpAny_allTrue_And_nil ⟨k₁, rfl⟩
    · refine wpAny_allTrue_Or_cons ((H.tr m x b A B s hx hA f).use fun c s₁ k₁ hc => ?_)
      subst hc
      cases c
      · exact wpAny_allTrue_Or_nil ⟨k₁, rfl⟩
      · exact ⟨k₁, rfl⟩
  | x :: y :: es, b, s, e, f => by
    cases hd : boolG op (evf m) (x :: y :: es) with
    | none => rw [hd] at e; cases e
    | some d =>
      rw [hd] at e
      unfold boolG at hd
      split at hd
      · cases hd
      rename_i dx hx
      split at hd
      · cases hd
      rename_i t ht
      have hxt : (evf m x).bind truth = some t := by rw [hx]; exact ht
      have rest : ∀ s₁, Keeps s s₁ → boolG op (evf m) (y :: es) = some d → Yields prog w A (allTrue op (y :: es) env) s₁ (fun c _ => c = b) := fun s₁ k₁ e' => allTrue_ok H hA (y :: es) b s₁ (by rw [e']; exact e) (f.keep (kp_heap k₁))
      cases op
      · refine wpAny_allTrue_And_cons ((H.tr m x t A B s hxt hA f).use fun c s₁ k₁ hc => ?_)
        subst hc
        cases c <;> simp only at hd
        · cases hd; rw [Option.bind_some, ht] at e; cases e; exact ⟨k₁, rfl⟩
        · exact (rest s₁ k₁ hd).use fun c s₂ k₂ q => ⟨kp_trans k₁ k₂, q⟩
      · refine wpAny_allTrue_Or_cons ((H.tr m x t A B s hxt hA f).use fun c s₁ k₁ hc => ?_)
        subst hc
        cases c <;> simp only at hd
        · exact (rest s₁ k₁ hd).use fun c s₂ k₂ q => ⟨kp_trans k₁ k₂, q⟩
        · cases hd; rw [Option.bind_some, ht] at e; cases e; exact ⟨k₁, rfl⟩

theorem name_ok {C : Cx} {M : Nat} {mg mb : Str → Option Value} (G : GW prog w C M h₀ mg mb) {x : Str} {p : Pos} {d : D} {s : Shared} (e : nameD C env.scope m x = some d) (f : FE w h₀ env B m s.heap) :
    Yields prog w A (eval (.Name x p) env) s (fun v h => RV w h B d v) := by
  have hnd : (x == ("__debug__" : Str)) = false := by
    rw [beq_eq_false_iff_ne]
    rintro rfl
    have := f.nm
    simp only [nmOk, Bool.and_eq_true, Option.isNone_iff_eq_none] at this
    have h1 : kd env.scope ("__debug__" : Str) = none := this.1
    unfold nameD at e
    rw [h1] at e
    cases e
  have loc : ∀ k, kd env.scope x = some k → (k = .local ∨ k = .cell ∨ k = .free) → m x = some d → Yields prog w A (eval (.Name x p) env) s (fun v h => RV w h B d v) := by
    intro k hk _ hm
    obtain ⟨v, hv, rv⟩ := f.var x d hm
    refine wpAny_Name ?_ hnd
    rcases hv with ⟨h1, ml, hn, hl⟩ | ⟨h1, c, hc, hi⟩
    · exact wpAny_loadName_local f.kind h1 hn hl ⟨kp_refl s, rv⟩
    · rcases h1 with h1 | h1
      · exact wpAny_loadName_cell f.kind h1 hc hi ⟨kp_refl s, rv⟩
      · refine wpAny_loadName_free f.kind h1 hc hi ⟨kp_refl s, rv⟩ (hn := ?_)
        rw [beq_eq_false_iff_ne]
        rintro rfl
        have := f.nm
        simp only [nmOk, Bool.and_eq_true, Option.isNone_iff_eq_none] at this
        have h2 : kd env.scope ("__classdict__" : Str) = none := this.2
        rw [h2] at hk; cases hk
  unfold nameD at e
  split at e
  · rename_i hk; exact loc _ hk (.inl rfl) e
  · rename_i hk; exact loc _ hk (.inr (.inl rfl)) e
  · rename_i hk; exact loc _ hk (.inr (.inr rfl)) e
  · rename_i hk
    obtain ⟨v, hv, rv⟩ := G.gl x d e
    refine Calls.Name_function_global f.kind hk (Calls.loadGlobal_global (by rw [f.gl]; exact G.g.keeps f.base) hv ⟨kp_refl s, ?_⟩) hnd
    exact RV.step (fun b o _ e => ⟨f.base b o e, fun q => by rw [f.lo b q] at e; cases e⟩) d v rv
  · cases e

/-- a builtin's name -/
theorem bname_ok {C : Cx} {M : Nat} {mg mb : Str → Option Value} (G : GW prog w C M h₀ mg mb) {x : Str} {p : Pos} {v : Value} {s : Shared} {E : Value → Shared → Prop} {Q : Value → Shared → Prop} (hx : x ∈ bnames) (hk : kd env.scope x = some .globalImplicit) (hb : bootBuiltins x = some v)
    (f : FE w h₀ env B m s.heap) (hQ : Q v s) : wpAny (model prog w) A (eval (.Name x p) env) Q E s := by
  have hnd : (x == ("__debug__" : Str)) = false := by
    rw [beq_eq_false_iff_ne]
    rintro rfl
    exact absurd hx (by decide)
  have hnn : x ≠ Str.ofString "__name__" := by
    rintro rfl
    exact absurd hx (by decide)
  refine Calls.Name_function_global f.kind hk (Calls.loadGlobal_builtin (by rw [f.gl]; exact G.g.keeps f.base) (G.miss x hx) (by rw [f.bl]; exact G.b.keeps f.base) (by rw [G.bb x hnn]; exact hb) hQ) hnd
end

end Mine

end

section
open PySem PySem.W PyProof.Rows PySem.SeqAt
set_option Elab.async false
namespace Mine

section
variable {prog : Program} {w : World} {A : Around} {h₀ : Heap} {N : Nat} {evf : PE → Expr → Option D} {itf : PE → Expr → Option (List D)} {env : Env} {m : PE} {B : Addr → Prop} {s : Shared}

theorem MadeL.fresh {d : D} {v : Value} {h : Heap} : MadeL w s.heap.objs.size d v h → ∃ l, d = .list l ∧ Fresh w s B l v h
  | ⟨l, xs, c, e, ev, hl, rs, hn⟩ => ⟨l, e, _, xs, c, ev, get?_size _, hl, rs _, hn⟩
theorem list_fresh {args : List D} {vs : List Value} {d : D} (hh : A.handled = none) (r : RVs w s.heap B args vs) (e : callB (Str.ofString "list") args = some d) :
    Yields prog w A (call (.type "list") vs) s (fun v h => ∃ l, d = .list l ∧ Fresh w s B l v h) := by
  have e : bList args = some d := e
  exact (bList_made hh r e).mono fun _ _ _ q => q.fresh

/-- a call of a builtin or of a builtin type by name -/
theorem callName_gen {C : Cx} {M : Nat} {mg mb : Str → Option Value} (G : GW prog w C M h₀ mg mb) (H : EvOk prog w h₀ N evf itf env) (hst : ∀ m e d, evf m e = some d → notStar e = true) (hA : AOk A N) {f : Str} {p pos : Pos} {es : List Expr} {ds : List D} {fv : Value} {P : Value → Heap → Prop}
    (hf : f ∈ bnames) (hk : kd env.scope f = some .globalImplicit) (hb : bootBuiltins f = some fv) (hv : isBT fv) (he : mapMD (evf m) es = some ds) (fe : FE w h₀ env B m s.heap)
    (hc : ∀ vs s', Keeps s s' → RVs w s'.heap B ds vs → Yields prog w A (call fv vs) s' P) :
    Yields prog w A (eval (.Call (.Name f p) es [] pos) env) s P := by
  have hpl := (stars_all (env := env) hst (pos := pos) es ds he).1
  refine wpAny_Call_NameR (bname_ok G hf hk hb fe ?_)
  have body : wpAny (model prog w) A (evalArgs fv true (backTo pos (starEach es env)) []) (fun a s₁ => wpAny (model prog w) A (call fv ([] ++ a.pos) a.kw) (fun v s' => Keeps s s' ∧ P v s'.heap) (fun _ _ => False) s₁) (fun _ _ => False) s := by
    refine (args_ok H hst hA fv es ds s he fe).use fun a s₁ k₁ p₁ => ?_
    obtain ⟨vs, rfl, rs⟩ := p₁
    exact (hc vs s₁ k₁ rs).use fun v s₂ k₂ q => ⟨kp_trans k₁ k₂, q⟩
  rcases hv with ⟨T, rfl⟩ | ⟨id, rfl⟩
  · exact PySem.callWith_type hpl body
  · exact Calls.callWith_builtin hpl body

theorem callFn_ok {C : Cx} {mg mb : Str → Option Value} (G : GW prog w C N h₀ mg mb) (H : EvOk prog w h₀ N evf itf env) (hst : ∀ m e d, evf m e = some d → notStar e = true) (hA : AOk A N) {f : Str} {p pos : Pos} {es : List Expr} {ds : List D} {F : List D → Option D} {d : D}
    (hF : C.fn.lookup f = some F) (hk : kd env.scope f = some .globalImplicit) (he : mapMD (evf m) es = some ds) (hd : F ds = some d) (fe : FE w h₀ env B m s.heap) :
    Yields prog w A (eval (.Call (.Name f p) es [] pos) env) s (fun v h => RV w h B d v) := by
  obtain ⟨fa, fd, o, h1, h2, h3, h4⟩ := G.fn f F hF
  have hnd : (f == ("__debug__" : Str)) = false := by
    rw [beq_eq_false_iff_ne]
    rintro rfl
    have := fe.nm
    simp only [nmOk, Bool.and_eq_true, Option.isNone_iff_eq_none] at this
    have h1 : kd env.scope ("__debug__" : Str) = none := this.1
    rw [h1] at hk; cases hk
  refine wpAny_Call_NameR (Calls.Name_function_global fe.kind hk (Calls.loadGlobal_global (by rw [fe.gl]; exact G.g.keeps fe.base) h1 ?_) hnd)
  refine Calls.callWith_function (o := o) (fd := fd) ((args_ok H hst hA _ es ds s he fe).use fun a s₁ k₁ p₁ => ?_)
  obtain ⟨vs, rfl, rs⟩ := p₁
  refine ⟨⟨kp_heap k₁ _ _ (fe.base _ _ h2), h3⟩, ?_⟩
  exact (h4 A s₁ B ds vs d hA (fun b o e => kp_heap k₁ b o (fe.base b o e)) (fun b hb => let ⟨o, ho⟩ := fe.hi b hb; ⟨o, kp_heap k₁ b o ho⟩) fe.lo rs hd).use fun v s₂ k₂ q => ⟨kp_trans k₁ k₂, q⟩

/-- isinstance(e, T) -/
theorem callIs_ok {C : Cx} {M : Nat} {mg mb : Str → Option Value} (G : GW prog w C M h₀ mg mb) (H : EvOk prog w h₀ N evf itf env) (hst : ∀ m e d, evf m e = some d → notStar e = true) (hA : AOk A N) {p pos pt : Pos} {x : Expr} {t : Str} {d0 : D} {b : Bool}
    (hk : kd env.scope (Str.ofString "isinstance") = some .globalImplicit) (hkt : kd env.scope t = some .globalImplicit) (he : evf m x = some d0) (ht : typeD t d0 = some b) (fe : FE w h₀ env B m s.heap) :
    Yields prog w A (eval (.Call (.Name (Str.ofString "isinstance") p) [x, .Name t pt] [] pos) env) s (fun v h => RV w h B (.bool b) v) := by
  have htn : t ∈ bnames ∧ ∃ tv, bootBuiltins t = some tv := by
    have : t = Str.ofString "int" ∨ t = Str.ofString "bool" := by
      unfold typeD at ht
      split at ht
      · split at ht
        · exact .inl (by assumption)
        · split at ht
          · exact .inr (by assumption)
          · cases ht
      · split at ht
        · exact .inl (by assumption)
        · split at ht
          · exact .inr (by assumption)
          · cases ht
      · cases ht
    rcases this with rfl | rfl
    · exact ⟨by decide, .type "int", by kernel_rfl⟩
    · exact ⟨by decide, .type "bool", by kernel_rfl⟩
  obtain ⟨htm, tv, htv⟩ := htn
  refine wpAny_Call_NameR (bname_ok G (by decide) hk (v := .builtin "isinstance") (by kernel_rfl) fe ?_)
  rw [star_eq (hst m x d0 he)]
  show wpAny (model prog w) A (callWith pos (.builtin "isinstance") [] ((false, eval x env) :: (false, eval (.Name t pt) env) :: []) []) _ _ s
  refine Calls.callWith_builtin rfl (Calls.evalArgs_plain (Calls.spliced_cons ((H.ev m x d0 A B s he hA fe).use fun v s₁ k₁ p₁ => Calls.spliced_cons (bname_ok G htm hkt htv (fe.keep (kp_heap k₁)) (Calls.spliced_nil ?_)))))
  exact (isinst_ok htv p₁.1 ht).use fun u s₂ k₂ q => ⟨kp_trans k₁ k₂, q⟩

end

end Mine

end

section
open PySem PySem.W PyProof.Rows PySem.SeqAt
set_option Elab.async false
namespace Mine

section
variable {prog : Program} {w : World} {A : Around} {h₀ : Heap} {N : Nat} {evf : PE → Expr → Option D} {itf : PE → Expr → Option (List D)} {env : Env} {m : PE} {B : Addr → Prop} {s : Shared}

theorem base_eq {o : Expr} (h : baseOk o = true) (name : Str) (env : Env) : attributeBase o name env (eval o env) = eval o env := by
  cases o <;> first | rfl | skip
  rename_i f as ks p
  cases as with
  | nil => exact absurd h Bool.false_ne_true
  | cons a as => cases f <;> rfl

/-- a method's call -/
theorem callMeth_ok (H : EvOk prog w h₀ N evf itf env) (hst : ∀ m e d, evf m e = some d → notStar e = true) (hA : AOk A N) {o : Expr} {f : Str} {apos pos : Pos} {es : List Expr} {d0 d : D} {ds : List D}
    (hc : (baseOk o && apos.endLine == pos.line && decide (es.length < 29)) = true) (ho : evf m o = some d0) (he : mapMD (evf m) es = some ds) (hd : callM d0 f ds = some d) (fe : FE w h₀ env B m s.heap) :
    Yields prog w A (eval (.Call (.Attribute o f apos) es [] pos) env) s (fun v h => RV w h B d v) := by
  simp only [Bool.and_eq_true, decide_eq_true_eq] at hc
  obtain ⟨⟨hb, hl⟩, hn⟩ := hc
  obtain ⟨hp1, hp2, hp3⟩ := stars_all (env := env) hst (pos := pos) es ds he
  refine wpAny_Call_method_lateS (base_eq hb f env) (by
    rw [hp3]
    simp only [List.length_nil, Nat.add_zero, List.isEmpty_nil, if_true, Bool.true_and, Bool.and_eq_true, decide_eq_true_eq]
    exact ⟨rfl, by omega⟩) hl ?_
  refine (H.ev m o d0 A B s ho hA fe).use fun ov s₁ k₁ p₁ => ?_
  have fe₁ := fe.keep (kp_heap k₁)
  refine bndE hd fun q hq hd => ?_
  have hm := mem_of_lookup hq
  obtain ⟨pa, sl, ty⟩ := m_plain _ hm
  have hT := (m_ok _ hm (prog := prog) (A := A) d0 _ ds d p₁.1 hd).1
  refine ⟨q.ty, q.id, pa, sl, ty, hT.1, hT.2, ?_⟩
  refine Calls.callWith_builtin hp1 ((args_ok H hst hA _ es ds s₁ he fe₁).use fun a s₂ k₂ p₂ => ?_)
  obtain ⟨vs, rfl, rs⟩ := p₂
  exact ((m_ok _ hm d0 _ ds d (p₁.1.keep (kp_heap k₂)) hd).2 vs (fe₁.keep (kp_heap k₂)).lt rs).use fun v s₃ k₃ q => ⟨kp_trans k₁ (kp_trans k₂ k₃), q⟩

theorem sub_ok (H : EvOk prog w h₀ N evf itf env) (hA : AOk A N) {v i : Expr} {pos : Pos} {dv di d : D} (hp : plainIdx i = true) (hv : evf m v = some dv) (hi : evf m i = some di) (hd : itemD dv di = some d) (fe : FE w h₀ env B m s.heap) :
    Yields prog w A (eval (.Subscript v i pos) env) s (fun v h => RV w h B d v) := by
  refine Subscript_ ((H.ev m v dv A B s hv hA fe).use fun ov s₁ k₁ p₁ => (H.ev m i di A B s₁ hi hA (fe.keep (kp_heap k₁))).use fun iv s₂ k₂ p₂ => ?_)
  exact (item_ok hp (p₁.1.keep (kp_heap k₂)) p₂.1 hd).use fun v s₃ k₃ q => ⟨kp_trans k₁ (kp_trans k₂ k₃), q⟩

noncomputable abbrev partF (evf : PE → Expr → Option D) (m : PE) : Option Expr → Option (Option D) := partE (evf m)

noncomputable def PartIs (w : World) (B : Addr → Prop) (a : Option D) (v : Value) (h : Heap) : Prop := match a with | none => v = .none | some d => RV w h B d v

theorem evPart_ok (H : EvOk prog w h₀ N evf itf env) (hA : AOk A N) {x : Option Expr} {a : Option D} {s : Shared} (hx : partF evf m x = some a) (fe : FE w h₀ env B m s.heap) :
    Yields prog w A (evalPart x env) s (PartIs w B a) := by
  cases x with
  | none => cases hx; rw [evalPart_none]; exact .pure rfl
  | some e =>
    have hx : (evf m e).map some = some a := hx
    cases he : evf m e with
    | none => rw [he] at hx; cases hx
    | some d => rw [he] at hx; cases hx; rw [evalPart_some]; exact (H.ev m e d A B s he hA fe).mono fun v s' k p => p.1

theorem part_keep {h h' : Heap} {a : Option D} {v : Value} (r : PartIs w B a v h) (hk : ∀ b o, h.get? b = some o → h'.get? b = some o) : PartIs w B a v h' := by
  cases a with
  | none => exact r
  | some d => exact RV.keep r hk

theorem slc_ok (H : EvOk prog w h₀ N evf itf env) (hA : AOk A N) {v : Expr} {l u t : Option Expr} {p pos : Pos} {dv d : D} {a b c : Option D} {x y z : Option Int} (hv : evf m v = some dv) (h1 : partF evf m l = some a) (h2 : partF evf m u = some b) (h3 : partF evf m t = some c)
    (e1 : partD a = some x) (e2 : partD b = some y) (e3 : partD c = some z) (hd : sliceD dv x y (z.getD 1) = some d) (fe : FE w h₀ env B m s.heap) :
    Yields prog w A (eval (.Subscript v (.Slice l u t p) pos) env) s (fun v h => RV w h B d v) := by
  refine Subscript_ ((H.ev m v dv A B s hv hA fe).use fun ov s₁ k₁ p₁ => ?_)
  refine wpAny_Slice ((evPart_ok H hA h1 (fe.keep (kp_heap k₁))).use fun v1 s₂ k₂ p₂ => (evPart_ok H hA h2 ((fe.keep (kp_heap k₁)).keep (kp_heap k₂))).use fun v2 s₃ k₃ p₃ => (evPart_ok H hA h3 (((fe.keep (kp_heap k₁)).keep (kp_heap k₂)).keep (kp_heap k₃))).use fun v3 s₄ k₄ p₄ => ?_)
  have k := kp_trans k₁ (kp_trans k₂ (kp_trans k₃ k₄))
  have fe4 := fe.keep (kp_heap k)
  have q2 := part_is (B := B) (part_keep (part_keep p₂ (kp_heap k₃)) (kp_heap k₄)) e1
  have q3 := part_is (B := B) (part_keep p₃ (kp_heap k₄)) e2
  have q4 := part_is (B := B) p₄ e3
  have := slice_ok (prog := prog) (A := A) (value := v) (l := l) (u := u) (st := t) (p := p) fe4.lt (p₁.1.keep (kp_heap (kp_trans k₂ (kp_trans k₃ k₄)))) q2 q3 q4 hd
  exact wpAny_mono this (fun r s' hq => ⟨kp_trans k hq.1, hq.2⟩) fun _ _ e => e

/-- a display -/
theorem list_ok (H : EvOk prog w h₀ N evf itf env) (hst : ∀ m e d, evf m e = some d → notStar e = true) (hA : AOk A N) {es : List Expr} {pos : Pos} {ds : List D} (he : mapMD (evf m) es = some ds) (hn : ds.length ≤ lim) (fe : FE w h₀ env B m s.heap) :
    Yields prog w A (eval (.List es pos) env) s (Fresh w s B ds) := by
  rw [arm_eval_List]
  refine wpAny_bind (wpAny_standAt (wpAny_bind ((items_ok H hst hA es ds s he fe).use fun vs s₁ k₁ p₁ => ?_)))
  exact (newList_ok p₁ hn).use fun v s₂ k₂ q => ⟨kp_trans k₁ k₂, q.back k₁⟩

theorem tuple_ok (H : EvOk prog w h₀ N evf itf env) (hst : ∀ m e d, evf m e = some d → notStar e = true) (hA : AOk A N) {es : List Expr} {kx : Nat} {pos : Pos} {ds : List D} (he : mapMD (evf m) es = some ds) (hn : ds.length ≤ lim) (fe : FE w h₀ env B m s.heap) :
    Yields prog w A (eval (.Tuple es kx pos) env) s (fun v h => RV w h B (.tuple ds) v) := by
  rw [arm_eval_Tuple]
  refine wpAny_bind (wpAny_standAt (wpAny_bind ((items_ok H hst hA es ds s he fe).use fun vs s₁ k₁ p₁ => ?_)))
  exact (newTuple_ok (fe.keep (kp_heap k₁)).lt p₁ hn).use fun v s₂ k₂ q => ⟨kp_trans k₁ k₂, q⟩

/-- a display of one fresh list -/
theorem list2_ok (H : EvOk prog w h₀ N evf itf env) (hA : AOk A N) {x : Expr} {pos : Pos} {d : D} (hx : evf m x = some d) (hs : notStar x = true) (hf : isFresh x = true) (fe : FE w h₀ env B m s.heap) :
    Yields prog w A (eval (.List [x] pos) env) s (fun v h => Fresh w s B [d] v h ∧ Fresh2 s v h) := by
  rw [arm_eval_List]
  refine wpAny_bind (wpAny_standAt (wpAny_bind (wpAny_items_cons ((H.ev m x d A B s hx hA fe).use fun v s₁ k₁ p₁ => wpAny_items_nil ?_) (star_eq hs [] env))))
  obtain ⟨rv, hfr, _⟩ := p₁
  obtain ⟨l, rfl, a, us, n, rfl, ha, hla, rl, hln⟩ := hfr hf
  refine wpAny_newList ?_ (show 1 ≤ sizeLine by decide)
  have hlt := Heap.lt_size hla
  refine ⟨kp_trans k₁ (kp_push s₁ _), ⟨_, [.ref a], 0, rfl, ?_, Heap.get?_push_size _ rfl, .one (RV.step (fun b o nb e => ⟨kp_heap (kp_push s₁ _) b o e, fun q => q.elim nb fun q => by subst q; exact absurd (Heap.lt_size e) (Nat.lt_irrefl _)⟩) _ _ rv), (show 1 ≤ lim by decide)⟩, ⟨_, [a], 0, rfl, ?_, by simp, ?_, ?_, Heap.get?_push_size _ rfl⟩⟩
  · cases e : s.heap.get? s₁.heap.objs.size with
    | none => rfl
    | some o => exact absurd (Heap.lt_size (kp_heap k₁ _ o e)) (Nat.lt_irrefl _)
  · cases e : s.heap.get? s₁.heap.objs.size with
    | none => rfl
    | some o => exact absurd (Heap.lt_size (kp_heap k₁ _ o e)) (Nat.lt_irrefl _)
  · simp only [List.mem_singleton]; exact Nat.ne_of_gt hlt
  · intro b hb; simp only [List.mem_singleton] at hb; subst hb; exact ha

/-- the frame, with the place of a new object banned -/
theorem FE.push {h : Heap} (f : FE w h₀ env B m h) {o : Obj} (ho : o.isFreed = false) : FE w h₀ env (fun b => B b ∨ b = h.objs.size) m (h.push o) where
  kind := f.kind
  gl := f.gl
  bl := f.bl
  nm := f.nm
  base := fun b o e => Heap.get?_push_of_some _ (f.base b o e)
  hi := fun b hb => by
    rcases hb with hb | rfl
    · obtain ⟨o', ho'⟩ := f.hi b hb; exact ⟨o', Heap.get?_push_of_some _ ho'⟩
    · exact ⟨o, Heap.get?_push_size _ ho⟩
  lo := fun b hb => by
    rcases hb with hb | rfl
    · exact f.lo b hb
    · cases e : h₀.get? h.objs.size with
      | none => rfl
      | some o' => exact absurd (Heap.lt_size (f.base _ _ e)) (Nat.lt_irrefl _)
  var := fun x d e => by
    obtain ⟨v, hv, rv⟩ := f.var x d e
    refine ⟨v, hv.keep fun b o e => Heap.get?_push_of_some _ e, RV.step (fun b o' nb e => ⟨Heap.get?_push_of_some _ e, ?_⟩) d v rv⟩
    rintro (q | q)
    · exact nb q
    · subst q; exact absurd (Heap.lt_size e) (Nat.lt_irrefl _)
  cell := f.cell
  cex := fun y c e => let ⟨o', ho'⟩ := f.cex y c e; ⟨o', Heap.get?_push_of_some _ ho'⟩

theorem pairs_ok (H : EvOk prog w h₀ N evf itf env) (hA : AOk A N) {pos : Pos} : ∀ (ks : List (Option Expr)) (vs : List Expr) (dk dv : List D) (s : Shared), mapMD (fun k : Option Expr => k.bind (evf m)) ks = some dk → mapMD (evf m) vs = some dv → dk.length = dv.length → FE w h₀ env B m s.heap →
    ks.all (·.isSome) = true ∧ ks.length = vs.length ∧ ks.length = dk.length ∧ Yields prog w A (evalPairs (pairTrees ks vs env pos)) s (fun ps h => RVs w h B dk (ps.map (·.1)) ∧ RVs w h B dv (ps.map (·.2)))
  | [], [], dk, dv, s, e1, e2, hl, fe => by
    cases e1; cases e2
    exact ⟨rfl, rfl, rfl, evalPairs_nil ⟨kp_refl s, .nil, .nil⟩⟩
  | [], v :: vs, dk, dv, s, e1, e2, hl, fe => by
    cases e1
    unfold mapMD at e2
    split at e2
    · cases e2
    split at e2
    · cases e2
    cases e2; simp at hl
  | k :: ks, [], dk, dv, s, e1, e2, hl, fe => by
    cases e2
    unfold mapMD at e1
    split at e1
    · cases e1
    split at e1
    · cases e1
    cases e1; simp at hl
  | none :: ks, v :: vs, dk, dv, s, e1, e2, hl, fe => by
    unfold mapMD at e1
    cases e1
  | some k :: ks, v :: vs, dk, dv, s, e1, e2, hl, fe => by
    unfold mapMD at e1 e2
    split at e1
    · cases e1
    rename_i a ha
    split at e1
    · cases e1
    rename_i as has
    cases e1
    split at e2
    · cases e2
    rename_i b hb
    split at e2
    · cases e2
    rename_i bs hbs
    cases e2
    have ha' : evf m k = some a := ha
    have hl' : as.length = bs.length := by simpa using hl
    obtain ⟨g1, g2, g3, _⟩ := pairs_ok H hA (pos := pos) ks vs as bs s has hbs hl' fe
    refine ⟨by rw [List.all_cons, g1]; rfl, by rw [List.length_cons, g2, List.length_cons], by rw [List.length_cons, g3, List.length_cons], ?_⟩
    refine evalPairs_cons ((H.ev m k a A B s ha' hA fe).use fun kv s₁ k₁ p₁ => wpAny_bind ((H.ev m v b A B s₁ hb hA (fe.keep (kp_heap k₁))).use fun vv s₂ k₂ p₂ => wpAny_bind (wpAny_standAt (wpAny_pure ?_))))
    have k12 := kp_trans k₁ k₂
    obtain ⟨_, _, _, hy⟩ := pairs_ok H hA (pos := pos) ks vs as bs s₂ has hbs hl' (fe.keep (kp_heap k12))
    exact hy.use fun ps s₃ k₃ q => ⟨kp_trans k12 k₃, .cons (p₁.1.keep (kp_heap (kp_trans k₂ k₃))) q.1, .cons (p₂.1.keep (kp_heap k₃)) q.2⟩

theorem carries_of {K : Type} [DecidableEq K] (kk : KK prog w K) {h : Heap} : ∀ (xs : List K) (ps : List (Value × Value)), RVs w h B (xs.map kk.f) (ps.map (·.1)) → Carries kk.knd ps (xs.zip (ps.map (·.2))) ∧ ∀ x ∈ xs, kk.ok x
  | [], ps, r => by
    have := r.length; simp at this; subst this; exact ⟨trivial, by simp⟩
  | x :: xs, [], r => by have := r.length; simp at this
  | x :: xs, (a, b) :: ps, r => by
    rw [List.map_cons, List.map_cons] at r
    obtain ⟨v, vs', he, r1, r2⟩ := r.uncons
    cases he
    obtain ⟨g1, g2⟩ := carries_of kk xs ps r2
    obtain ⟨q1, q2⟩ := kk.toIs r1
    refine ⟨⟨q1, rfl, g1⟩, fun y hy => ?_⟩
    rcases List.mem_cons.mp hy with rfl | hy
    · exact q2
    · exact g2 y hy

theorem dict_ok {K : Type} [DecidableEq K] (kk : KK prog w K) (hm : ∃ o, h₀.get? mainGlobals = some o) (H : EvOk prog w h₀ N evf itf env) (hA : AOk A N) {ks : List (Option Expr)} {vs : List Expr} {pos : Pos} {dk dv ks' vs' : List D} {xs : List K}
    (hk : mapMD (fun k : Option Expr => k.bind (evf m)) ks = some dk) (hv : mapMD (evf m) vs = some dv) (hl : dk.length = dv.length) (h15 : dk.length ≤ 15) (hxs : dk = xs.map kk.f) (h0 : dk ≠ [])
    (hd : dictG [] [] (dk.zip dv) = some (ks', vs')) (fe : FE w h₀ env B m s.heap) :
    Yields prog w A (eval (.Dict ks vs pos) env) s (fun v h => RV w h B (.dict ks' vs') v) := by
  have fe1 : FE w h₀ env (fun b => B b ∨ b = s.heap.objs.size) m ({ s with heap := s.heap.push { cls := .type "dict", data := .dict #[] } } : Shared).heap := fe.push rfl
  obtain ⟨g1, g2, g3, hy⟩ := pairs_ok H hA (pos := pos) ks vs dk dv _ hk hv hl fe1
  have hDn : ¬ B s.heap.objs.size := fun q => Nat.lt_irrefl _ (fe.lt _ q)
  have hsys : s.heap.objs.size ≠ sysModules := by
    obtain ⟨o, ho⟩ := hm
    have := Heap.lt_size (fe.base _ _ ho)
    intro q; rw [q] at this
    exact absurd this (by decide)
  refine wpAny_Dict_pairs (knd := kk.knd) (pairs := pairTrees ks vs env pos) (zip_pairTrees ks vs env pos g1 g2) ?_ ?_ (hy.use fun ps s₁ k₁ q => ?_)
  · intro he
    have := pairTrees_length ks vs env pos g1 g2
    rw [he, g3] at this
    exact h0 (List.length_eq_zero_iff.mp this.symm)
  · rw [pairTrees_length ks vs env pos g1 g2, g3]; exact h15
  · obtain ⟨q1, q2⟩ := q
    subst hxs
    obtain ⟨c1, c2⟩ := carries_of kk xs ps q1
    have hxl : xs.length = dv.length := by simpa using hl
    have hpl : dv.length = (ps.map (·.2)).length := q2.length.symm
    have kS : Keeps s s₁ := by
      obtain ⟨h1, t1, rfl, k1⟩ := k₁
      exact ⟨h1, t1, rfl, fun b o e => k1 b o (Heap.get?_push_of_some _ e)⟩
    have hD₁ : s₁.heap.DictOf kk.knd s.heap.objs.size [] := by
      refine ⟨_, _, _, kp_heap k₁ _ _ (Heap.get?_push_size _ rfl), ⟨rfl, rfl, rfl⟩, rfl, fun e he => absurd he (Array.not_mem_empty e), .nil, .nil⟩
    refine ⟨xs.zip (ps.map (·.2)), c1, hD₁, fun h' hD' hs' => ?_⟩
    have kk' : ∀ b o, s.heap.get? b = some o → h'.get? b = some o := fun b o e => sameBut_keep hs' b o (Nat.ne_of_lt (Heap.lt_size e)) (kp_heap kS b o e)
    have hz : (xs.map kk.f).zip dv = (xs.zip dv).map fun p => (kk.f p.1, p.2) := by
      rw [List.zip_map_left]; rfl
    rw [hz] at hd
    have hfst : (xs.zip dv).map (·.1) = xs := List.map_fst_zip (by omega)
    have hsnd : (xs.zip dv).map (·.2) = dv := List.map_snd_zip (by omega)
    have rv' : RVs w h' B dv (ps.map (·.2)) := RVs.step (fun b o nb e => ⟨sameBut_keep hs' b o (fun q => nb (.inr q)) e, fun q => nb (.inl q)⟩) _ _ q2
    obtain ⟨e1, e2, e3⟩ := dictG_merged kk (xs.zip dv) (ps.map (·.2)) [] [] ks' vs' (h := h') (B := B) .nil .nil (by rw [hsnd]; exact rv') (by simp) (fun p hp => c2 _ (List.of_mem_zip hp).1) hd
    rw [hfst] at e1 e2 e3
    refine ⟨?_, ?_⟩
    · obtain ⟨h1, t1, rfl, k1⟩ := kS
      exact ⟨h', _, rfl, kk'⟩
    · rw [e1]
      exact rv_dict kk hD' e3 e2 hDn hsys
end

end Mine

end

section
open PySem PySem.W PyProof.Rows PySem.SeqAt
set_option Elab.async false
namespace Mine
end Mine

end

section
open PySem PySem.W PyProof.Rows PySem.SeqAt
set_option Elab.async false
set_option maxRecDepth 100000
namespace Mine
end Mine

end

section
open PySem PySem.W PyProof.Rows PySem.SeqAt
set_option Elab.async false
set_option maxRecDepth 100000
namespace Mine

section
variable {prog : Program} {w : World} {A : Around} {E : Value → Shared → Prop} {s : Shared} {B : Addr → Prop}

/-- a tuple's iterator, drawn from within -/
theorem tupNext_item {it t : Addr} {i : Nat} {items : Array Value} {x : Value} {Q : Value → Shared → Prop} (hit : s.heap.IsTupleIter it t i) (ht : s.heap.IsTuple t items) (hx : items[i]? = some x)
    (hQ : ∀ h', h'.IsTupleIter it t (i + 1) → Heap.SameBut it s.heap h' → Q x { s with heap := h' }) : wpAny (model prog w) A (Builtin.SmallTypes.nextOf (.ref it)) Q E s := by
  obtain ⟨o, ho, hc, hd⟩ := id hit
  obtain ⟨ol, hol, _, nl, hdl⟩ := ht
  unfold Builtin.SmallTypes.nextOf
  refine wpAny_bind (wpAny_callSpecial?_slot (name := Str.ofString "__next__") hit.typeIs F.slot_tuple_iterator_next (wpAny_call_entry F.slot_tuple_iterator_next hit.typeIs F.entry_tuple_iterator_next ?_ (F.args_tuple_iterator_next_1 _)))
  show wpAny _ _ (field (.ref it) 0 >>= _) _ _ s
  refine wpAny_bind (wpAny_field ho hd (x := .ref t) rfl ?_)
  show wpAny _ _ (if (Value.ref t == Value.none) = true then _ else _) _ _ s
  rw [if_neg (show ¬ ((Value.ref t == Value.none) = true) from Bool.false_ne_true)]
  show wpAny _ _ (field (.ref it) 1 >>= _) _ _ s
  refine wpAny_bind (wpAny_field ho hd (x := .int i 0) rfl ?_)
  show wpAny _ _ (seqItems? (.ref t) >>= _) _ _ s
  refine wpAny_bind (wpAny_seqItems hol hdl ?_)
  simp only [Int.toNat_natCast, hx]
  refine wpAny_bind (wpAny_setField ho hd (by simp) (wpAny_pure ⟨x, rfl, wpAny_pure (hQ _ ?_ (Heap.SameBut.update ..))⟩))
  exact ⟨_, Heap.get?_update_self _ ho (Obj.isFreed_of_fields (Obj.data_mapFields hd _)), (Obj.cls_mapFields ..).trans hc, by
    rw [Obj.data_mapFields hd]; simp [rawInt]⟩
theorem tupNext_end {it t : Addr} {i : Nat} {items : Array Value} {Q : Value → Shared → Prop} (hh : A.handled = none) (hit : s.heap.IsTupleIter it t i) (ht : s.heap.IsTuple t items) (hx : items[i]? = none)
    (hE : ∀ h' e, Heap.ExtBut it s.heap h' → (∃ o, h'.get? e = some o ∧ o.cls = .type "StopIteration") → E (.ref e) { s with heap := h' }) : wpAny (model prog w) A (Builtin.SmallTypes.nextOf (.ref it)) Q E s := by
  obtain ⟨o, ho, hc, hd⟩ := id hit
  obtain ⟨ol, hol, _, nl, hdl⟩ := ht
  unfold Builtin.SmallTypes.nextOf
  refine wpAny_bind (wpAny_callSpecial?_slot (name := Str.ofString "__next__") hit.typeIs F.slot_tuple_iterator_next (wpAny_call_entry F.slot_tuple_iterator_next hit.typeIs F.entry_tuple_iterator_next ?_ (F.args_tuple_iterator_next_1 _)))
  show wpAny _ _ (field (.ref it) 0 >>= _) _ _ s
  refine wpAny_bind (wpAny_field ho hd (x := .ref t) rfl ?_)
  show wpAny _ _ (if (Value.ref t == Value.none) = true then _ else _) _ _ s
  rw [if_neg (show ¬ ((Value.ref t == Value.none) = true) from Bool.false_ne_true)]
  show wpAny _ _ (field (.ref it) 1 >>= _) _ _ s
  refine wpAny_bind (wpAny_field ho hd (x := .int i 0) rfl ?_)
  show wpAny _ _ (seqItems? (.ref t) >>= _) _ _ s
  refine wpAny_bind (wpAny_seqItems hol hdl ?_)
  simp only [Int.toNat_natCast, hx]
  refine wpAny_bind (wpAny_rule (wpAny_bind (wpAny_setField ho hd (by simp) ?_)))
  show wpAny _ _ (newExc (.type "StopIteration") [] >>= _) _ _ _
  refine wpAny_bind ?_
  simp only [newExc, newTuple]
  refine wpAny_bind (wpAny_newObj_type ?_ (by size_fits))
  refine wpAny_bind (m := firstArgMember _ _) (wpAny_of_eq (a := Value.none) (by first | rfl | (simp only [firstArgMember]; rfl)) ?_)
  refine wpAny_newObj_type ?_ (by size_fits)
  simp only [raiseNew]
  refine wpAny_bind (wpAny_handled ?_)
  first | rw [show A.in1.handled = none from hh] | rw [hh]
  refine wpAny_bind (wpAny_pure (wpAny_throw ?_))
  exact hE _ _ (((Heap.SameBut.update ..).extBut.push _).push _) ⟨_, Heap.get?_push_size _ rfl, rfl⟩

theorem drTup (hh : A.handled = none) (it t : Addr) (hne : t ≠ it) (items : Array Value) :
    Draws prog w A it [it, t] items.size (fun i v => items[i]? = some v) (fun i h => h.IsTupleIter it t i ∧ h.IsTuple t items) where
  live := fun _ _ st => let ⟨o, ho, _⟩ := st.1; ⟨o, ho⟩
  frame := fun _ _ _ st hk => ⟨st.1.at fun o e => hk it (by simp) o e, st.2.at fun o e => hk t (by simp) o e⟩
  item := fun i s Q E hi st hQ => by
    refine tupNext_item st.1 st.2 (x := items[i]) (by simp [hi]) fun h' hit' hs' => ?_
    exact hQ _ h' s.toks (by simp [hi]) ⟨hit', st.2.extBut hs'.extBut hne⟩ hs'
  done := fun s Q E st hE => tupNext_end hh st.1 st.2 (by simp) hE

theorem meets_enumT (t : Addr) (items : Array Value) (n : Nat) :
    Meets (Builtin.«enumerate.__new__» ⟨[.type "enumerate", .ref t], []⟩) (fun _ R s => IsT s.heap t items n ∧
      R (.ok (.ret (.ref (s.heap.push { cls := .type "tuple_iterator", data := .fields #[.ref t, .int 0 0] }).objs.size)))
        { s with heap := (s.heap.push { cls := .type "tuple_iterator", data := .fields #[.ref t, .int 0 0] }).push { cls := .type "enumerate", data := .fields #[.none, .bool false, .ref s.heap.objs.size, rawInt 0, .none, .none] } }) :=
  .of_wp fun prog w A R s h => by
    obtain ⟨hp, g, d, tk, os⟩ := s; obtain ⟨hl, h⟩ := h
    have hsub := sub_enumerate
    have hL : Heap.IsTuple (Shared.heap ⟨hp, g, d, tk, os⟩) t items := ⟨_, hl, rfl, n, rfl⟩
    wp_walk using AutoSeq1.wpAny_loadPart' hl
    refine wpAny_stack_any fun st => wpAny_pure ?_
    split
    · rename_i c _ _ _ _ _
      cases (c == Value.type "enumerate")
      · wp_walk using AutoSeq1.wpAny_loadPart' hl, wpAny_pyIter_tuple hL
        exact ⟨_, rfl, h⟩
      · wp_walk using AutoSeq1.wpAny_loadPart' hl, wpAny_pyIter_tuple hL
        exact ⟨_, rfl, h⟩
    · wp_walk using AutoSeq1.wpAny_loadPart' hl, wpAny_pyIter_tuple hL
      exact ⟨_, rfl, h⟩

theorem call_enumT {t : Addr} {items : Array Value} {n : Nat} {Q : Value → Shared → Prop} (hl : IsT s.heap t items n)
    (h : ∀ h', IsEnum h' (s.heap.objs.size + 1) s.heap.objs.size 0 .none → h'.IsTupleIter s.heap.objs.size t 0 → h'.objs.size = s.heap.objs.size + 2 →
      (∀ b o, s.heap.get? b = some o → h'.get? b = some o) → Q (.ref (s.heap.objs.size + 1)) { s with heap := h' }) :
    wpAny (model prog w) A (call (.type "enumerate") [.ref t]) Q E s := by
  refine callType_new F.called_enumerate (by decide) (F.typeCall_enumerate_1 _) (F.newCall_enumerate_1 _) (fun obj => F.args_object_init_2 obj _) F.entry_enumerate_new (meets_enumT t items n) ⟨hl, ?_⟩
  have hz : (s.heap.push { cls := .type "tuple_iterator", data := .fields #[.ref t, .int 0 0] }).objs.size = s.heap.objs.size + 1 := Heap.size_push ..
  show _ ∧ _
  rw [hz]
  have he : IsEnum ((s.heap.push { cls := .type "tuple_iterator", data := .fields #[.ref t, .int 0 0] }).push
      { cls := .type "enumerate", data := .fields #[.none, .bool false, .ref s.heap.objs.size, rawInt 0, .none, .none] }) (s.heap.objs.size + 1) s.heap.objs.size 0 .none := by
    have := Heap.get?_push_size (s.heap.push { cls := .type "tuple_iterator", data := .fields #[.ref t, .int 0 0] })
      (o := { cls := .type "enumerate", data := .fields #[.none, .bool false, .ref s.heap.objs.size, rawInt 0, .none, .none] }) rfl
    rw [hz] at this; exact this
  refine ⟨⟨_, he, rfl⟩, h _ he ⟨_, Heap.get?_push_of_some _ (Heap.get?_push_size _ rfl), rfl, rfl⟩ (by rw [Heap.size_push, hz]) fun b o x => Heap.get?_push_of_some _ (Heap.get?_push_of_some _ x)⟩
end


section
variable {prog : Program} {w : World} {A : Around} {E : Value → Shared → Prop} {s : Shared} {B : Addr → Prop}

noncomputable def EStt (w : World) (Ban : Addr → Prop) (e it t : Addr) (vs : List Value) (n : Nat) (l : List D) (i : Nat) (h : Heap) : Prop :=
  (∃ old, IsEnum h e it i old) ∧ h.IsTupleIter it t i ∧ IsT h t vs.toArray n ∧ RVs w h Ban l vs

theorem enumL_get {l : List D} {i : Nat} {d : D} (h : (enumL l)[i]? = some d) : ∃ x, l[i]? = some x ∧ d = .tuple [.int i, x] := by
  unfold enumL at h
  simp only [List.getElem?_map, Option.map_eq_some_iff] at h
  obtain ⟨p, hp, rfl⟩ := h
  rw [List.getElem?_zipIdx, Option.map_eq_some_iff] at hp
  obtain ⟨x, hx, rfl⟩ := hp
  exact ⟨x, hx, by simp⟩
theorem enumL_len (l : List D) : (enumL l).length = l.length := by simp [enumL]

theorem enumSrc {Ban : Addr → Prop} {e it t : Addr} {vs : List Value} {n : Nat} {l : List D} (hh : A.handled = none) (hei : e ≠ it) (het : e ≠ t) (hti : t ≠ it) (hB1 : Ban e) (hB2 : Ban it) (hB3 : ¬ Ban t) (hl : vs.length = l.length) :
    Src prog w A Ban e [e, it] (enumL l) (EStt w Ban e it t vs n l) where
  frame := fun i h h' X st hX hk => by
    obtain ⟨⟨old, h1⟩, ⟨o2, h2, r2⟩, h3, h4⟩ := st
    have ke : ∀ o, h.get? e = some o → h'.get? e = some o := fun o q => hk e o (fun x => (hX e x).2 (by simp)) q
    have ki : ∀ o, h.get? it = some o → h'.get? it = some o := fun o q => hk it o (fun x => (hX it x).2 (by simp)) q
    have kt : ∀ o, h.get? t = some o → h'.get? t = some o := fun o q => hk t o (fun x => hB3 (hX t x).1) q
    exact ⟨⟨old, ke _ h1⟩, ⟨o2, ki _ h2, r2⟩, kt _ h3, RVs.step (fun b o nb q => ⟨hk b o (fun x => nb (hX b x).1) q, nb⟩) _ _ h4⟩
  item := fun i d tg s E Q htg hd st hQ => by
    obtain ⟨x, hx, rfl⟩ := enumL_get hd
    obtain ⟨⟨old, h1⟩, h2, h3, h4⟩ := st
    have hit : Heap.IsTuple s.heap t vs.toArray := ⟨_, h3, rfl, n, rfl⟩
    have hi : i < vs.toArray.size := by simp only [List.size_toArray]; rw [hl]; exact (List.getElem?_eq_some_iff.mp hx).1
    refine wpAny_pyNext_enum_itemD (drTup (A := A.in1) hh it t hti vs.toArray) h1 ⟨h2, hit⟩ hi hei (by simp [hei, het]) fun v h' tk hP ho hs' hT hsz hk => hQ _ _ fun E' Q' hQ' => ?_
    cases tg with
    | Tuple es kx p =>
      refine wpAny_letOwnedTupleGo_enum (s := { s with heap := h', toks := tk + 1 }) ho fun h'' he'' hs'' => ?_
      have hs'' : Heap.SameBut e h' h'' := hs''
      have kk : ∀ b o, b ∉ [e, it] → s.heap.get? b = some o → h''.get? b = some o := fun b o nb q => by
        simp only [List.mem_cons, List.not_mem_nil, or_false, not_or] at nb
        exact sameBut_keep hs'' b o nb.1 (hk b o nb.1 nb.2 q)
      have elt : e < s.heap.objs.size := Heap.lt_size h1
      have kB : ∀ b o, ¬ Ban b → s.heap.get? b = some o → h''.get? b = some o ∧ ¬ Ban b := fun b o nb q =>
        ⟨kk b o (by simp only [List.mem_cons, List.not_mem_nil, or_false, not_or]; exact ⟨fun z => nb (z ▸ hB1), fun z => nb (z ▸ hB2)⟩) q, nb⟩
      have r4 : RVs w h'' Ban l vs := RVs.step kB _ _ h4
      obtain ⟨o2, g2, r2⟩ := hs'.1
      refine hQ' { s with heap := h'', toks := tk + 1 } ⟨h'', tk + 1, rfl, fun b o nb q => kk b o nb q⟩ ⟨⟨_, he''⟩, ⟨o2, sameBut_keep hs'' _ _ hei.symm g2, r2⟩, (kB t _ hB3 h3).1, r4⟩ ?_
      simp only [RV]
      obtain ⟨v', hv', rv⟩ := r4.get i x hx
      have hvv : vs[i]? = some v := by simpa using hP
      rw [hv'] at hvv; cases hvv
      refine ⟨s.heap.objs.size, [.int i tk, v], 0, rfl, fun q => ?_, ?_, .cons rv_int (.one (rv.less fun b hb => hb.1)), (show 2 ≤ lim by decide)⟩
      · obtain ⟨_, o, ho⟩ := q; exact absurd (Heap.lt_size ho) (Nat.lt_irrefl _)
      · exact sameBut_keep hs'' _ _ (Nat.ne_of_gt elt) hT
    | _ => exact no_ft htg
  done := fun s E Q st hQ => by
    obtain ⟨⟨old, h1⟩, h2, h3, h4⟩ := st
    have hit : Heap.IsTuple s.heap t vs.toArray := ⟨_, h3, rfl, n, rfl⟩
    have hn : (enumL l).length = vs.toArray.size := by rw [enumL_len]; simp [hl]
    rw [hn] at h2
    refine wpAny_pyNext_enum_endD (drTup (A := A.in1) hh it t hti vs.toArray) h1 ⟨h2, hit⟩ fun h' hx => hQ { s with heap := h' } ⟨h', s.toks, rfl, fun b o nb q => hx b o (fun z => nb (by simp [z])) q⟩
  self := fun i s E Q st hQ => by
    obtain ⟨⟨old, h1⟩, _⟩ := st
    exact wpAny_pyIter_enum h1 hQ
  ex := fun i h st b hb => by
    obtain ⟨⟨old, h1⟩, ⟨o2, h2, _⟩, _⟩ := st
    simp only [List.mem_cons, List.not_mem_nil, or_false] at hb
    rcases hb with rfl | rfl
    · exact ⟨_, h1⟩
    · exact ⟨_, h2⟩

/-- enumerate(t) called and its iterator taken -/
theorem enum_iter {l : List D} {v : Value} {Q : Value → Shared → Prop} (hh : A.handled = none) (hB : ∀ b, B b → ∃ o, s.heap.get? b = some o) (rv : RV w s.heap B (.tuple l) v) (hQ : ∀ it s', IterAt prog w A B s (enumL l) it s' → Q it s') :
    wpAny (model prog w) A (call (.type "enumerate") [v]) (fun v s₁ => wpAny (model prog w) A (pyIter v) Q E s₁) E s := by
  simp only [RV] at rv
  obtain ⟨t, vs, n, rfl, nb, ht, rs, hl⟩ := rv
  refine call_enumT ht fun h' he hi hsz hk => ?_
  refine wpAny_pyIter_enum (s := { s with heap := h' }) he (hQ _ _ ?_)
  have htlt : t < s.heap.objs.size := Heap.lt_size ht
  have none' : ∀ k, s.heap.get? (s.heap.objs.size + k) = none := fun k => by
    cases e : s.heap.get? (s.heap.objs.size + k) with
    | none => rfl
    | some o => have := Heap.lt_size e; exact absurd this (by simp only [Addr] at *; omega)
  refine ⟨_, [s.heap.objs.size + 1, s.heap.objs.size], fun Ban => EStt w Ban (s.heap.objs.size + 1) s.heap.objs.size t vs n l, rfl, ⟨h', s.toks, rfl, hk⟩, fun b hb => ?_, fun Ban hB1 hB2 => ?_⟩
  · simp only [List.mem_cons, List.not_mem_nil, or_false] at hb
    rcases hb with rfl | rfl
    · exact ⟨none' 1, _, he⟩
    · obtain ⟨o, ho, _⟩ := hi; exact ⟨none' 0, o, ho⟩
  · have nBan : ∀ b o, ¬ B b → s.heap.get? b = some o → ¬ Ban b := fun b o nb' e q => by
      rcases hB2 b q with h | h | h
      · exact nb' h
      · simp only [List.mem_cons, List.not_mem_nil, or_false] at h
        rcases h with rfl | rfl
        · rw [none' 1] at e; cases e
        · have := none' 0; rw [Nat.add_zero] at this; rw [this] at e; cases e
      · have h : h'.get? b = none := h
        rw [hk b o e] at h; cases h
    refine ⟨enumSrc hh ?_ ?_ ?_ (hB1 _ (by simp)) (hB1 _ (by simp)) (nBan t _ nb ht) rs.length, ⟨_, he⟩, hi, hk _ _ ht, RVs.step (fun b o nb' e => ⟨hk b o e, nBan b o nb' e⟩) _ _ rs⟩
    · simp only [Addr] at *; omega
    · simp only [Addr] at *; omega
    · simp only [Addr] at *; omega
end

end Mine

end

section
open PySem PySem.W PyProof.Rows PySem.SeqAt
set_option Elab.async false
namespace Mine

theorem fresh_of_lst {e : Expr} (h : isLst e = true) : isFresh e = true := by
  unfold isFresh; rw [h]; rfl
theorem ev_star {C : Cx} {n : Nat} {sc : Scope} {m : PE} {e : Expr} {d : D} (h : ev C n sc m e = some d) : notStar e = true := by
  cases e <;> first | rfl | (cases n <;> exact nns h)
theorem ev_notSet {C : Cx} {n : Nat} {sc : Scope} {m : PE} {e : Expr} {d : D} (h : ev C n sc m e = some d) : notSet e = true := by
  cases e <;> first | rfl | (cases n <;> exact nns h)
theorem ev_notSlice {C : Cx} {n : Nat} {sc : Scope} {m : PE} {e : Expr} {d : D} (h : ev C n sc m e = some d) : plainIdx e = true := by
  cases e <;> first | rfl | (cases n <;> exact nns h)
theorem it_notSet {C : Cx} {n : Nat} {sc : Scope} {m : PE} {e : Expr} {l : List D} (h : itE C n sc m e = some l) : notSet e = true := by
  cases e <;> first | rfl | (cases n <;> exact nns h)
theorem marks_of {op : CmpOp} {r : Expr} (h : notSet r = true) : behindInMarks op r = false := by
  cases r <;> first | rfl | exact Bool.noConfusion h

section
variable {prog : Program} {w : World} {A : Around} {h₀ : Heap} {N : Nat} {m : PE} {B : Addr → Prop} {s : Shared}

theorem post_of {e : Expr} {d : D} {v : Value} {h : Heap} (h1 : isFresh e = false) (h2 : isFresh2 e = false) (rv : RV w h B d v) : Post w s B e d v h :=
  ⟨rv, (fun q => by rw [h1] at q; cases q), (fun q => by rw [h2] at q; cases q)⟩

theorem it_of {env : Env} {e : Expr} {d : D} {l : List D} (hA : AOk A N) (hy : Yields prog w A (eval e env) s (fun v h => RV w h B d v)) (hl : itemsD d = some l) {E : Value → Shared → Prop} {Q : Value → Shared → Prop}
    (hQ : ∀ it s', IterAt prog w A B s l it s' → Q it s') : wpAny (model prog w) A (eval e env) (fun x s₁ => wpAny (model prog w) A (pyIter x) Q E s₁) E s := by
  refine hy.use fun v s₁ k₁ rv => iter_ok hA.hd rv hl fun I o St hI hsrc => hQ _ _ ⟨I, [I], St, rfl, kp_trans k₁ (kp_push s₁ o), fun b hb => ?_, fun Ban h1 h2 => ?_⟩
  · simp only [List.mem_singleton] at hb
    rw [hb]
    refine ⟨?_, ?_⟩
    · cases e : s.heap.get? I with
      | none => rfl
      | some o' => exact absurd (Heap.lt_size (kp_heap k₁ _ _ e)) (by rw [hI]; exact Nat.lt_irrefl _)
    · exact (hsrc (fun b => B b ∨ b = I) (.inr rfl) (fun b hb => hb.imp id fun q => by rw [q, hI]; exact get?_size _)).1.ex 0 _ (hsrc (fun b => B b ∨ b = I) (.inr rfl) (fun b hb => hb.imp id fun q => by rw [q, hI]; exact get?_size _)).2 I (by simp)
  · refine hsrc Ban (h1 I (by simp)) fun b hb => ?_
    rcases h2 b hb with q | q | q
    · exact .inl q
    · simp only [List.mem_singleton] at q; rw [q, hI]; exact .inr (get?_size _)
    · refine .inr ?_
      cases e : s₁.heap.get? b with
      | none => rfl
      | some o' => have q' : (s₁.heap.push o).get? b = none := q
                   rw [Heap.get?_push_of_some _ e] at q'; cases q'

/-- a list comprehension as a value -/
theorem lc_ok {evf : PE → Expr → Option D} {itf itO : PE → Expr → Option (List D)} {evO : PE → Expr → Option D} {env : Env} {elt : Expr} {g : Comprehension} {gs : List Comprehension} {scope : Scope} {pos : Pos} {l : List D} {rs : List (List D)}
    (hA : AOk A N) (HO : EvOk prog w h₀ N evO itO env) (HI : ∀ env' : Env, env'.scope = relabelS scope env.scope → EvOk prog w h₀ N evf itf env') (f : FE w h₀ env B m s.heap)
    (hsc : scopeOk scope env.scope = true) (hit : itO m g.iter = some l)
    (hgens : gensG evf itf scope (fun m' => (evf m' elt).map fun d => [d]) (g :: gs) (inner scope m) l = some rs) (hlim : rs.flatten.length ≤ lim) :
    Yields prog w A (eval (.ListComp elt (g :: gs) scope pos) env) s (Post w s B (.ListComp elt (g :: gs) scope pos) (.list rs.flatten)) := by
  obtain ⟨tg, ig, fg, ag⟩ := g
  obtain ⟨rfl, _⟩ := gensG_eq _ _ _ _ _ _ _ _ _ _ _ _ hgens
  rw [eval_ListComp]
  refine compL_ok hA HO HI f hsc hit hgens hlim fun C v s' hC hns hk hfr hv hf2 => ?_
  obtain ⟨ml, hml⟩ := hns
  refine ⟨ml, hml, fun h' hs' => ?_⟩
  have kC : ∀ b o, s.heap.get? b = some o → h'.get? b = some o := fun b o e => sameBut_keep hs' b o (fun q => by subst q; rw [hC] at e; cases e) (kp_heap hk b o e)
  have hfr' : Fresh w s B rs.flatten v h' := by
    obtain ⟨a, vs, n, rfl, ha, hl, r, hn⟩ := hfr
    refine ⟨a, vs, n, rfl, ha, sameBut_keep hs' a _ (fun q => hv (by rw [q])) hl, ?_, hn⟩
    exact RVs.step (fun b o nb e => ⟨sameBut_keep hs' b o (fun q => nb (.inl (.inr q))) e, fun q => nb (q.imp .inl id)⟩) _ _ r
  have hkk : Keeps s { s' with heap := h' } := by
    obtain ⟨h1, t1, rfl, k1⟩ := hk
    exact ⟨h', t1, rfl, kC⟩
  refine ⟨hkk, hfr'.rv f.hi, fun _ => ⟨_, rfl, hfr'⟩, fun q => ?_⟩
  have hel : isFresh elt = true := fresh_of_lst (Bool.and_eq_true_iff.mp q).1
  obtain ⟨a, as, n, rfl, h1, h2, h3, h4, h5⟩ := hf2 hel
  exact ⟨a, as, n, rfl, h1, h2, h3, h4, sameBut_keep hs' a _ (fun q => hv (by rw [q])) h5⟩

theorem dc_ok {K : Type} [DecidableEq K] (kk : KK prog w K) {evf : PE → Expr → Option D} {itf itO : PE → Expr → Option (List D)} {evO : PE → Expr → Option D} {env : Env} {k v : Expr} {g : Comprehension} {scope : Scope} {pos : Pos} {l : List D} {d : D} (hm : ∃ o, h₀.get? mainGlobals = some o)
    (hA : AOk A N) (HO : EvOk prog w h₀ N evO itO env) (HI : ∀ env' : Env, env'.scope = relabelS scope env.scope → EvOk prog w h₀ N evf itf env') (f : FE w h₀ env B m s.heap)
    (hsc : scopeOk scope env.scope = true) (hit : itO m g.iter = some l)
    (hgens : dictOfG (gensG evf itf scope (emitG kk.chk evf k v) [g] (inner scope m) l) = some d) :
    Yields prog w A (eval (.DictComp k v [g] scope pos) env) s (fun v h => RV w h B d v) := by
  have h0 : g.is_async = 0 := by
    unfold dictOfG at hgens
    split at hgens
    · cases hgens
    rename_i rs hrs
    obtain ⟨tg, ig, fg, ag⟩ := g
    exact (gensG_eq _ _ _ _ _ _ _ _ _ _ _ _ hrs).1
  obtain ⟨tg, ig, fg, ag⟩ := g
  simp only at h0; subst h0
  exact compD_ok kk hm hA HO HI f hsc hit hgens
end

end Mine

end

section
open PySem PySem.W PyProof.Rows PySem.SeqAt
set_option Elab.async false
namespace Mine

section
variable {prog : Program} {w : World} {h₀ : Heap} {N : Nat} {C : Cx} {mg mb : Str → Option Value}

theorem allStr_of : ∀ ks : List D, allStr ks = true → ∃ xs : List Str, ks = xs.map .str
  | [], _ => ⟨[], rfl⟩
  | .str s :: r, h => by obtain ⟨xs, rfl⟩ := allStr_of r h; exact ⟨s :: xs, rfl⟩
  | .none :: _, h | .bool _ :: _, h | .int _ :: _, h | .list _ :: _, h | .tuple _ :: _, h | .dict _ _ :: _, h | .range _ _ _ :: _, h => by simp [allStr] at h
theorem allInt_of : ∀ ks : List D, allInt ks = true → ∃ xs : List Int, ks = xs.map .int
  | [], _ => ⟨[], rfl⟩
  | .int s :: r, h => by obtain ⟨xs, rfl⟩ := allInt_of r h; exact ⟨s :: xs, rfl⟩
  | .none :: _, h | .bool _ :: _, h | .str _ :: _, h | .list _ :: _, h | .tuple _ :: _, h | .dict _ _ :: _, h | .range _ _ _ :: _, h => by simp [allInt] at h

theorem mapMD_nil {α β : Type} {f : α → Option β} {x : α} {l : List α} (h : mapMD f (x :: l) = some []) : False := by
  unfold mapMD at h
  cases hx : f x with
  | none => rw [hx] at h; exact nns h
  | some y =>
    rw [hx] at h
    cases hl : mapMD f l with
    | none => rw [hl] at h; exact nns h
    | some ys => rw [hl] at h; cases h

theorem mapMD_one {α β : Type} {f : α → Option β} {x : α} {l : List β} (h : mapMD f [x] = some l) : ∃ y, f x = some y ∧ l = [y] := by
  unfold mapMD at h
  cases hx : f x with
  | none => rw [hx] at h; exact nns h
  | some y => rw [hx] at h; exact ⟨y, rfl, (Option.some.inj h).symm⟩
theorem const_ok {A : Around} {B : Addr → Prop} {s : Shared} {c : Const} {kx : Nat} {pos : Pos} {env : Env} {d : D} (e : constD c = some d) : Yields prog w A (eval (.Constant c kx pos) env) s (fun v h => RV w h B d v) := by
  unfold constD at e
  split at e
  · cases e; exact wpAny_Constant_none ⟨kp_refl s, by simp only [RV]⟩
  · cases e; exact wpAny_Constant_bool ⟨kp_refl s, by simp only [RV]⟩
  · cases e; exact wpAny_Constant_int ⟨kp_tok s _, rv_int⟩
  · split at e
    · cases e; rename_i h; exact wpAny_Constant_str ⟨kp_tok s _, rv_str h⟩
    · cases e
  · cases e

theorem fresh_call {f : Str} {p pos : Pos} {args : List Expr} (h : isFresh (.Call (.Name f p) args [] pos) = true) : f = Str.ofString "list" := by
  have h : ((some f == some (Str.ofString "list")) && args.length == 1 && true) = true := h
  rw [Bool.and_true, Bool.and_eq_true] at h
  exact Option.some.inj (beq_iff_eq.mp h.1)
theorem or_inv {x y : Option D} {d : D} (h : (match x with | some d => some d | none => y) = some d) : x = some d ∨ y = some d := by
  cases x with
  | none => exact .inr h
  | some d' => exact .inl h
theorem free_inv {C : Cx} {sc : Scope} {t : Str} (h : builtinFree C sc t = true) : kd sc t = some .globalImplicit := by
  unfold builtinFree at h
  rw [Bool.and_eq_true, Bool.and_eq_true] at h
  exact beq_iff_eq.mp h.1.1

theorem callN_ok (G : GW prog w C N h₀ mg mb) {n : Nat} {env : Env} {m : PE} {d : D} {A : Around} {B : Addr → Prop} {s : Shared} (H : EvOk prog w h₀ N (ev C n env.scope) (itE C n env.scope) env) (hA : AOk A N) (fe : FE w h₀ env B m s.heap)
    {f : Str} {p pos : Pos} {args : List Expr} (h : callN C env.scope (ev C n env.scope m) f args = some d) : Yields prog w A (eval (.Call (.Name f p) args [] pos) env) s (Post w s B (.Call (.Name f p) args [] pos) d) := by
  have hst : ∀ m e d, ev C n env.scope m e = some d → notStar e = true := fun m e d h => ev_star h
  refine ifsE h fun hk h => ?_
  cases hF : C.fn.lookup f with
  | some F =>
    rw [hF] at h
    refine bndE h fun ds hes h => ?_
    refine (callFn_ok G H hst hA (p := p) (pos := pos) hF hk hes h fe).mono fun v s' k q => ⟨q, fun hf => ?_, fun hf => absurd hf Bool.false_ne_true⟩
    -- list is no def of the text
    exfalso
    obtain rfl := fresh_call hf
    obtain ⟨fa, fd, o, h1, _⟩ := G.fn _ _ hF
    rw [G.miss _ (by decide)] at h1; cases h1
  | none =>
    rw [hF] at h
    refine ifsE h fun _ h => ?_
    rcases ifp h with ⟨rfl, h⟩ | ⟨_, h⟩
    · refine bndE h fun q hq h => ?_
      obtain rfl := duo_inv hq
      refine bndE h fun t ht h => ?_
      obtain ⟨pt, hpt⟩ := asName_inv ht
      refine ifsE h fun hbf h => ?_
      refine bndE h fun d0 hx h => ?_
      refine mpdE h fun b ht eqv => ?_; subst eqv
      rw [hpt]
      exact (callIs_ok G H hst hA hk (free_inv hbf) hx ht fe).mono fun v s' k q => post_of rfl rfl q
    · refine bndE h fun ds hes h => ?_
      obtain ⟨hfm, fv, hfv, hty⟩ := callB_boot h
      by_cases hfl : f = Str.ofString "list"
      · subst hfl
        have : fv = .type "list" := by have h2 : bootBuiltins (Str.ofString "list") = some (.type "list") := by kernel_rfl
                                       rw [h2] at hfv; cases hfv; rfl
        subst this
        refine (callName_gen G H hst hA (p := p) (pos := pos) (P := fun v h => ∃ l, d = .list l ∧ Fresh w s B l v h) hfm hk hfv hty hes fe fun vs s' k rs => ?_).mono fun v s' k q => ?_
        · exact (list_fresh hA.hd rs h).mono fun v s'' k' q => by obtain ⟨l, h1, h2⟩ := q; exact ⟨l, h1, h2.back k⟩
        · obtain ⟨l, rfl, hfr⟩ := q
          exact ⟨hfr.rv fe.hi, fun _ => ⟨l, rfl, hfr⟩, fun hf => absurd hf Bool.false_ne_true⟩
      · exact (callName_gen G H hst hA (p := p) (pos := pos) (P := fun v h => RV w h B d v) hfm hk hfv hty hes fe fun vs s' k rs => callB_ok hA.hd (fe.keep (kp_heap k)).lt hfv rs h).mono fun v s' k q =>
          ⟨q, fun hf => absurd (fresh_call hf) hfl, fun hf => absurd hf Bool.false_ne_true⟩

theorem dictE_ok {n : Nat} {env : Env} {m : PE} {d : D} {A : Around} {B : Addr → Prop} {s : Shared} (hmg : ∃ o, h₀.get? mainGlobals = some o) (H : EvOk prog w h₀ N (ev C n env.scope) (itE C n env.scope) env) (hA : AOk A N) (fe : FE w h₀ env B m s.heap)
    {ks : List (Option Expr)} {vs : List Expr} {pos : Pos} (h : dictE (ev C n env.scope m) ks vs = some d) : Yields prog w A (eval (.Dict ks vs pos) env) s (fun v h => RV w h B d v) := by
  refine bndE h fun dk hk h => ?_
  refine bndE h fun dv hv h => ?_
  refine ifsE h fun pat0 h => ?_; obtain ⟨hl, hko, h15⟩ := pat0
  refine mpdE h fun p hg eqv => ?_; subst eqv
  by_cases h0 : dk = []
  · subst h0
    have hdv : dv = [] := List.length_eq_zero_iff.mp hl.symm
    subst hdv
    have hks : ks = [] := by
      cases ks with
      | nil => rfl
      | cons k ks => exact (mapMD_nil hk).elim
    have hvs : vs = [] := by
      cases vs with
      | nil => rfl
      | cons k ks => exact (mapMD_nil hv).elim
    subst hks hvs
    cases hg
    refine wpAny_Dict_empty ⟨kp_push s _, ?_⟩
    have hsys : s.heap.objs.size ≠ sysModules := by
      obtain ⟨o, ho⟩ := hmg
      have := Heap.lt_size (fe.base _ _ ho)
      intro q; rw [q] at this
      exact absurd this (by decide)
    exact rv_dict (kStr prog w) (kvs := []) ⟨_, _, _, Heap.get?_push_size _ rfl, ⟨rfl, rfl, rfl⟩, rfl, fun e he => absurd he (Array.not_mem_empty e), .nil, .nil⟩ (by simp) .nil (fun q => Nat.lt_irrefl _ (fe.lt _ q)) hsys
  · unfold keysOk at hko
    rw [Bool.or_eq_true] at hko
    rcases hko with hko | hko
    · obtain ⟨xs, hxs⟩ := allStr_of dk hko
      exact dict_ok (kStr prog w) hmg H hA hk hv hl h15 hxs h0 hg fe
    · obtain ⟨xs, hxs⟩ := allInt_of dk hko
      exact dict_ok (kInt prog w) hmg H hA hk hv hl h15 hxs h0 hg fe

theorem subE_ok {n : Nat} {env : Env} {m : PE} {d : D} {A : Around} {B : Addr → Prop} {s : Shared} (H : EvOk prog w h₀ N (ev C n env.scope) (itE C n env.scope) env) (hA : AOk A N) (fe : FE w h₀ env B m s.heap)
    {v i : Expr} {pos : Pos} (h : subE (ev C n env.scope m) v i = some d) : Yields prog w A (eval (.Subscript v i pos) env) s (fun v h => RV w h B d v) := by
  unfold subE at h
  cases hs : asSlc i with
  | some q =>
    obtain ⟨p, rfl⟩ := asSlc_inv hs
    rw [hs] at h
    refine bndE h fun dv hv h => ?_
    refine bndE h fun a ha h => ?_
    refine bndE h fun b hb h => ?_
    refine bndE h fun c hcx h => ?_
    refine bndE h fun x hx h => ?_
    refine bndE h fun y hy h => ?_
    refine bndE h fun z hz h => ?_
    exact slc_ok H hA hv ha hb hcx hx hy hz h fe
  | none =>
    rw [hs] at h
    refine bndE h fun dv hv h => ?_
    refine bndE h fun di hi h => ?_
    exact sub_ok H hA (ev_notSlice hi) hv hi h fe

theorem ev_ok (G : GW prog w C N h₀ mg mb) (n : Nat) (ih : ∀ env : Env, EvOk prog w h₀ N (ev C n env.scope) (itE C n env.scope) env) (env : Env) (m : PE) (e : Expr) (d : D) (A : Around) (B : Addr → Prop) (s : Shared)
    (h : ev C (n + 1) env.scope m e = some d) (hA : AOk A N) (fe : FE w h₀ env B m s.heap) : Yields prog w A (eval e env) s (Post w s B e d) := by
  have H := ih env
  have hst : ∀ m e d, ev C n env.scope m e = some d → notStar e = true := fun m e d h => ev_star h
  have hmg : ∃ o, h₀.get? mainGlobals = some o := by obtain ⟨o, _, _, ho, _⟩ := G.g; exact ⟨o, ho⟩
  cases e
  case Constant c kx pos => exact (const_ok h).mono fun v s' k p => post_of rfl rfl p
  case Name x pos => exact (name_ok G h fe).mono fun v s' k p => post_of rfl rfl p
  case BoolOp op vs pos => exact (bool_ok H hA _ d s h fe).mono fun v s' k p => post_of rfl rfl p
  case BinOp l op r pos =>
    refine bndE h fun a ha h => ?_
    refine bndE h fun b hb h => ?_
    refine wpAny_BinOp ((H.ev m _ a A B s ha hA fe).use fun va s₁ k₁ p₁ => (H.ev m _ b A B s₁ hb hA (fe.keep (kp_heap k₁))).use fun vb s₂ k₂ p₂ => ?_)
    have k := kp_trans k₁ k₂
    exact (binary_ok (fe.keep (kp_heap k)).lt (p₁.1.keep (kp_heap k₂)) p₂.1 h).use fun v s₃ k₃ q => ⟨kp_trans k k₃, post_of rfl rfl q⟩
  case UnaryOp op x pos =>
    refine bndE h fun dx hx h => ?_
    refine wpAny_UnaryOp ((H.ev m x dx A B s hx hA fe).use fun v s₁ k₁ p₁ => ?_)
    exact (unary_ok p₁.1 h).use fun v s₂ k₂ q => ⟨kp_trans k₁ k₂, post_of rfl rfl q⟩
  case IfExp t b o pos =>
    refine wpAny_IfExp ?_
    refine bndE h fun c ht h => ?_
    refine (H.tr m t c A B s ht hA fe).use fun c' s₁ k₁ hc => ?_
    subst hc
    cases c' with
    | true => exact (H.ev m b d A B s₁ h hA (fe.keep (kp_heap k₁))).use fun v s₂ k₂ q => ⟨kp_trans k₁ k₂, post_of rfl rfl q.1⟩
    | false => exact (H.ev m o d A B s₁ h hA (fe.keep (kp_heap k₁))).use fun v s₂ k₂ q => ⟨kp_trans k₁ k₂, post_of rfl rfl q.1⟩
  case Compare l ops rs pos =>
    refine bndE h fun op hop h => ?_
    refine bndE h fun r hr h => ?_
    obtain rfl := sole_inv hop
    obtain rfl := sole_inv hr
    refine bndE h fun a ha h => ?_
    refine bndE h fun b hb h => ?_
    refine wpAny_Compare1 ((H.ev m l a A B s ha hA fe).use fun va s₁ k₁ p₁ => (H.ev m r b A B s₁ hb hA (fe.keep (kp_heap k₁))).use fun vb s₂ k₂ p₂ => ?_) (marks_of (ev_notSet hb))
    have k := kp_trans k₁ k₂
    exact (cmp_ok (by have := hA.un; omega) (p₁.1.keep (kp_heap k₂)) p₂.1 h).use fun v s₃ k₃ q => ⟨kp_trans k k₃, post_of rfl rfl q⟩
  case List es pos =>
    refine bndE h fun ds hes h => ?_
    refine ifsE h fun hn h => ?_
    cases h
    by_cases h2 : isFresh2 (.List es pos) = true
    · cases hs : sole es with
      | none =>
        have h2 : (match sole es with | some x => isLst x | none => false) = true := h2
        rw [hs] at h2
        exact absurd h2 Bool.false_ne_true
      | some x =>
        obtain rfl := sole_inv hs
        have hx : isLst x = true := h2
        obtain ⟨dx, hdx, rfl⟩ := mapMD_one hes
        exact (list2_ok H hA hdx (ev_star hdx) (fresh_of_lst hx) fe).mono fun v s' k q => ⟨q.1.rv fe.hi, fun _ => ⟨_, rfl, q.1⟩, fun _ => q.2⟩
    · exact (list_ok H hst hA hes hn fe).mono fun v s' k q => ⟨q.rv fe.hi, fun _ => ⟨_, rfl, q⟩, fun q => absurd q h2⟩
  case Tuple es kx pos =>
    refine bndE h fun ds hes h => ?_
    refine ifsE h fun hn h => ?_
    cases h
    exact (tuple_ok H hst hA hes hn fe).mono fun v s' k q => post_of rfl rfl q
  case Dict ks vs pos => exact (dictE_ok hmg H hA fe h).mono fun v s' k q => post_of rfl rfl q
  case ListComp elt gens scope pos =>
    refine bndE h fun g hg h => ?_
    cases gens with
    | nil => exact nns hg
    | cons g' gs =>
      cases hg
      refine ifsE h fun hsc h => ?_
      refine bndE h fun l hit h => ?_
      refine bndE h fun rs hrs h => ?_
      refine ifsE h fun hlim h => ?_
      cases h
      exact lc_ok hA H (fun env' he' => by have := ih env'; rw [he'] at this; exact this) fe hsc hit hrs hlim
  case DictComp k v gens scope pos =>
    refine bndE h fun g hg h => ?_
    obtain rfl := sole_inv hg
    refine ifsE h fun hsc h => ?_
    refine bndE h fun l hit h => ?_
    have HI : ∀ env' : Env, env'.scope = relabelS scope env.scope → EvOk prog w h₀ N (ev C n (relabelS scope env.scope)) (itE C n (relabelS scope env.scope)) env' := fun env' he' => by have := ih env'; rw [he'] at this; exact this
    refine Yields.mono (P := fun v h => RV w h B d v) ?_ fun v s' k q => post_of rfl rfl q
    rcases or_inv h with h | h
    · exact dc_ok (kStr prog w) hmg hA H HI fe hsc hit h
    · exact dc_ok (kInt prog w) hmg hA H HI fe hsc hit h
  case Call f args kws pos =>
    refine ifsE h fun hk h' => ?_
    obtain rfl := emp hk
    clear h
    have h := h'
    clear h'
    cases hn : asName f with
    | some x =>
      obtain ⟨p, rfl⟩ := asName_inv hn
      exact callN_ok G H hA fe h
    | none =>
      rw [hn] at h
      refine bndE h fun q hq h => ?_
      obtain rfl := asAttr_inv hq
      refine ifsE h fun hc h => ?_
      refine bndE h fun d0 ho h => ?_
      refine bndE h fun ds hes h => ?_
      exact (callMeth_ok H hst hA hc ho hes h fe).mono fun v s' k q => post_of rfl rfl q
  case Subscript v i pos => exact (subE_ok H hA fe h).mono fun v s' k q => post_of rfl rfl q
  all_goals exact nns h
end

end Mine

end

section
open PySem PySem.W PyProof.Rows PySem.SeqAt
set_option Elab.async false
namespace Mine

section
variable {prog : Program} {w : World} {h₀ : Heap} {N : Nat} {C : Cx} {mg mb : Str → Option Value}

theorem tr_plain (G : GW prog w C N h₀ mg mb) {n : Nat} (ih : ∀ env : Env, EvOk prog w h₀ N (ev C n env.scope) (itE C n env.scope) env) {env : Env} {m : PE} {e : Expr} {b : Bool} {A : Around} {B : Addr → Prop} {s : Shared}
    (h : (ev C (n + 1) env.scope m e).bind truth = some b) (hA : AOk A N) (fe : FE w h₀ env B m s.heap) (hp : ∀ whole, isTrue e env whole = (do let v ← whole; standAt e.pos; holding [v] (truthy v))) : Yields prog w A (isTrue e env (eval e env)) s (fun c _ => c = b) := by
  refine bndE h fun d hd h => ?_
  refine wpAny_isTrue_value ((ev_ok G n ih env m e d A B s hd hA fe).use fun v s₁ k₁ p₁ => ?_) (hp _)
  exact (truth_ok p₁.1 h).use fun c s₂ k₂ q => ⟨kp_trans k₁ k₂, q⟩
theorem not_inv {o : Option D} {b : Bool} (h : (o.bind (unD .Not)).bind truth = some b) : o.bind truth = some (!b) := by
  refine bndE h fun d' h hb => ?_
  refine bndE h fun d eqv h => ?_; subst eqv
  refine mpdE (show (truth d).map (fun t => D.bool !t) = some d' from h) fun t ht eqv => ?_; subst eqv
  rw [Option.bind_some, ht, ← Option.some.inj hb, Bool.not_not]

theorem tr_ok (G : GW prog w C N h₀ mg mb) (n : Nat) (ih : ∀ env : Env, EvOk prog w h₀ N (ev C n env.scope) (itE C n env.scope) env) (env : Env) (m : PE) (e : Expr) (b : Bool) (A : Around) (B : Addr → Prop) (s : Shared)
    (h : (ev C (n + 1) env.scope m e).bind truth = some b) (hA : AOk A N) (fe : FE w h₀ env B m s.heap) : Yields prog w A (isTrue e env (eval e env)) s (fun c _ => c = b) := by
  have H := ih env
  cases e
  case UnaryOp op x p =>
    cases op
    case Not =>
      refine wpAny_isTrue_Not ((H.tr m x (!b) A B s (not_inv h) hA fe).use fun c s₁ k₁ hc => ⟨k₁, ?_⟩)
      rw [hc, Bool.not_not]
    all_goals exact tr_plain G ih h hA fe fun _ => rfl
  case BoolOp op vs p => exact wpAny_isTrue_BoolOp (allTrue_ok H hA vs b s h fe)
  case IfExp t x o p =>
    rw [arm_isTrue_IfExp]
    refine bndE h fun d hd h => ?_
    refine bndE hd fun c ht hd => ?_
    refine wpAny_bind ((H.tr m t c A B s ht hA fe).use fun c' s₁ k₁ hc => ?_)
    subst hc
    cases c' with
    | true => exact (H.tr m x b A B s₁ (by rw [show ev C n env.scope m x = some d from hd]; exact h) hA (fe.keep (kp_heap k₁))).use fun c s₂ k₂ q => ⟨kp_trans k₁ k₂, q⟩
    | false => exact (H.tr m o b A B s₁ (by rw [show ev C n env.scope m o = some d from hd]; exact h) hA (fe.keep (kp_heap k₁))).use fun c s₂ k₂ q => ⟨kp_trans k₁ k₂, q⟩
  case Compare l ops rs p =>
    refine bndE h fun d hd ht => ?_
    clear h
    refine bndE hd fun op hop hd => ?_
    refine bndE hd fun r hr hd => ?_
    obtain rfl := sole_inv hop
    obtain rfl := sole_inv hr
    refine bndE hd fun a ha hd => ?_
    refine bndE hd fun b' hb hd => ?_
    refine wpAny_isTrue_Compare1 ((H.ev m l a A B s ha hA fe).use fun va s₁ k₁ p₁ => (H.ev m r b' A B s₁ hb hA (fe.keep (kp_heap k₁))).use fun vb s₂ k₂ p₂ => ?_) (marks_of (ev_notSet hb))
    have k := kp_trans k₁ k₂
    refine (cmp_ok (by have := hA.un; omega) (p₁.1.keep (kp_heap k₂)) p₂.1 hd).use fun v s₃ k₃ q => ?_
    exact (truth_ok q ht).use fun c s₄ k₄ q' => ⟨kp_trans k (kp_trans k₃ k₄), q'⟩
  all_goals exact tr_plain G ih h hA fe fun _ => rfl

theorem it_ok (G : GW prog w C N h₀ mg mb) (n : Nat) (ih : ∀ env : Env, EvOk prog w h₀ N (ev C n env.scope) (itE C n env.scope) env) (env : Env) (m : PE) (e : Expr) (l : List D) (A : Around) (B : Addr → Prop) (s : Shared)
    (h : itE C (n + 1) env.scope m e = some l) (hA : AOk A N) (fe : FE w h₀ env B m s.heap) :
    notSet e = true ∧ ∀ E Q, (∀ it s', IterAt prog w A B s l it s' → Q it s') → wpAny (model prog w) A (eval e env) (fun x s₁ => wpAny (model prog w) A (pyIter x) Q E s₁) E s := by
  have H := ih env
  refine ⟨it_notSet h, fun E Q hQ => ?_⟩
  have gen : ∀ {e}, (ev C n env.scope m e).bind itemsD = some l → wpAny (model prog w) A (eval e env) (fun x s₁ => wpAny (model prog w) A (pyIter x) Q E s₁) E s := by
    intro e h
    refine bndE h fun d hd h => ?_
    exact it_of hA ((H.ev m e d A B s hd hA fe).mono fun v s' k p => p.1) h hQ
  cases e
  case Call f args kws pos =>
    rcases ifp h with ⟨⟨hn, hbf⟩, h2⟩ | ⟨_, h⟩
    · obtain ⟨p, rfl⟩ := asName_inv hn
      refine ifsE h2 fun hk0 h2 => ?_
      obtain rfl := emp hk0
      refine bndE h2 fun a hq h2 => ?_
      obtain rfl := sole_inv hq
      refine bndE h2 fun l0 hx h2 => ?_
      refine bndE hx fun dx hx hsx => ?_
      obtain rfl := asTupD_inv hsx
      cases h2
      have hk := free_inv hbf
      refine wpAny_Call_NameR (bname_ok G (by decide) hk (v := .type "enumerate") (by kernel_rfl) fe ?_)
      rw [star_eq (ev_star hx)]
      show wpAny (model prog w) A (callWith pos (.type "enumerate") [] ((false, eval a env) :: []) []) _ _ s
      refine PySem.callWith_type rfl (Calls.evalArgs_plain (Calls.spliced_cons ((H.ev m a _ A B s hx hA fe).use fun v s₁ k₁ p₁ => Calls.spliced_nil ?_)))
      refine enum_iter (B := B) hA.hd (fe.keep (kp_heap k₁)).hi p₁.1 fun it s' hit => hQ it s' ?_
      obtain ⟨I, wr, St, rfl, k₃, h1, h2⟩ := hit
      refine ⟨I, wr, St, rfl, kp_trans k₁ k₃, fun b hb => ⟨?_, (h1 b hb).2⟩, h2⟩
      cases e : s.heap.get? b with
      | none => rfl
      | some o => have := (h1 b hb).1; rw [kp_heap k₁ b o e] at this; cases this
    exact gen h
  case Set => exact nns h
  all_goals exact gen h

/-- the expressions' soundness -/
theorem sound (G : GW prog w C N h₀ mg mb) : ∀ (n : Nat) (env : Env), EvOk prog w h₀ N (ev C n env.scope) (itE C n env.scope) env
  | 0, env => ⟨fun m e d A B s h => nns h, fun m e b A B s h => nns h, fun m e l A B s h => nns h⟩
  | n + 1, env => ⟨fun m e d A B s h => ev_ok G n (sound G n) env m e d A B s h, fun m e b A B s h => tr_ok G n (sound G n) env m e b A B s h, fun m e l A B s h => it_ok G n (sound G n) env m e l A B s h⟩
end

end Mine

end

section
open PySem PySem.W PyProof.Rows PySem.SeqAt
set_option Elab.async false
namespace Mine

/-- one inner list of an own list of lists -/
inductive RowAt (w : World) (Bn : Addr → Prop) (h : Heap) (l : List D) (b : Addr) : Prop where
  | mk (vs : List Value) (n : Nat) : IsL h b vs.toArray n → flat l = true → RVs w h Bn l vs → l.length ≤ lim → RowAt w Bn h l b
inductive OneAt (w : World) (Bn : Addr → Prop) (h : Heap) (l : List D) (a : Addr) (fp : List Addr) : Prop where
  | mk : fp = [a] → ∀ (vs : List Value) (n : Nat), IsL h a vs.toArray n → RVs w h Bn l vs → l.length ≤ lim → OneAt w Bn h l a fp

inductive Rows2 (w : World) (Bn : Addr → Prop) (h : Heap) : List (List D) → List Addr → Prop where
  | nil : Rows2 w Bn h [] []
  | cons {l : List D} {b : Addr} {ls : List (List D)} {bs : List Addr} : RowAt w Bn h l b → Rows2 w Bn h ls bs → Rows2 w Bn h (l :: ls) (b :: bs)

inductive TwoAt (w : World) (Bn : Addr → Prop) (h : Heap) (ls : List (List D)) (a : Addr) (fp : List Addr) : Prop where
  | mk (as : List Addr) (n : Nat) : fp = a :: as → (a :: as).Nodup → IsL h a (as.map Value.ref).toArray n → Rows2 w Bn h ls as → ls.length ≤ lim → TwoAt w Bn h ls a fp
/-- an own list, at a, made of the objects fp -/
noncomputable def OwnAt (w : World) (Bn : Addr → Prop) (h : Heap) : OD → Addr → List Addr → Prop
  | .one l, a, fp => OneAt w Bn h l a fp
  | .two ls, a, fp => TwoAt w Bn h ls a fp

theorem Rows2.step {w : World} {Bn Bn' : Addr → Prop} {h h' : Heap} {ls : List (List D)} {as : List Addr} (r : Rows2 w Bn h ls as) (hk : ∀ b o, (b ∈ as) → h.get? b = some o → h'.get? b = some o) : Rows2 w Bn' h' ls as := by
  induction r with
  | nil => exact .nil
  | cons q _ ih =>
    obtain ⟨vs, n, h1, h2, h3, h4⟩ := q
    exact .cons ⟨vs, n, hk _ _ List.mem_cons_self h1, h2, h3.flatAny h2, h4⟩ (ih fun b o hb e => hk b o (List.mem_cons_of_mem _ hb) e)

theorem OwnAt.step {w : World} {Bn Bn' : Addr → Prop} {h h' : Heap} {ld : OD} {a : Addr} {fp : List Addr} (r : OwnAt w Bn h ld a fp) (hk : ∀ b o, (b ∈ fp ∨ ¬ Bn b) → h.get? b = some o → h'.get? b = some o)
    (hb : ∀ b o, ¬ Bn b → h.get? b = some o → ¬ Bn' b) : OwnAt w Bn' h' ld a fp := by
  cases ld with
  | one l =>
    obtain ⟨rfl, vs, n, h1, h2, h3⟩ := r
    exact ⟨rfl, vs, n, hk _ _ (.inl List.mem_cons_self) h1, RVs.step (fun b o nb e => ⟨hk b o (.inr nb) e, hb b o nb e⟩) _ _ h2, h3⟩
  | two ls =>
    obtain ⟨as, n, rfl, h0, h1, h2, h3⟩ := r
    exact ⟨as, n, rfl, h0, hk _ _ (.inl List.mem_cons_self) h1, h2.step fun b o hb' e => hk b o (.inl (List.mem_cons_of_mem _ hb')) e, h3⟩
theorem rows_rv {w : World} {Bn B : Addr → Prop} {h : Heap} {ls : List (List D)} {as : List Addr} (r : Rows2 w Bn h ls as) (hB : ∀ b ∈ as, ¬ B b) : RVs w h B (ls.map .list) (as.map Value.ref) := by
  induction r with
  | nil => exact .nil
  | cons q _ ih =>
    obtain ⟨vs, n, h1, h2, h3, h4⟩ := q
    refine .cons ?_ (ih fun b hb => hB b (List.mem_cons_of_mem _ hb))
    simp only [RV]
    exact ⟨_, vs, n, rfl, hB _ List.mem_cons_self, h1, h3.flatAny h2, h4⟩

/-- an own list as a datum, under fewer bans -/
theorem OwnAt.rv {w : World} {Bn B : Addr → Prop} {h : Heap} {ld : OD} {a : Addr} {fp : List Addr} (r : OwnAt w Bn h ld a fp) (hB : ∀ b, B b → Bn b) (hfp : ∀ b ∈ fp, ¬ B b) : RV w h B ld.toD (.ref a) := by
  cases ld with
  | one l =>
    obtain ⟨rfl, vs, n, h1, h2, h3⟩ := r
    simp only [OD.toD, RV]
    exact ⟨a, vs, n, rfl, hfp a List.mem_cons_self, h1, h2.less hB, h3⟩
  | two ls =>
    obtain ⟨as, n, rfl, h0, h1, h2, h3⟩ := r
    simp only [OD.toD, RV]
    exact ⟨a, as.map Value.ref, n, rfl, hfp a List.mem_cons_self, h1, rows_rv h2 fun b hb => hfp b (List.mem_cons_of_mem _ hb), by simpa using h3⟩

/-- a frame with lists of its own -/
structure FS (w : World) (h₀ : Heap) (env : Env) (stor : Str → Bool) (B₀ Mt : Addr → Prop) (F : Str → Addr × List Addr) (st : St) (h : Heap) : Prop where
  fr : FR w h₀ env stor B₀ Mt st.m h
  own : ∀ x ld, st.o x = some ld → Var env h x (.ref (F x).1) ∧ OwnAt w (fun b => B₀ b ∨ Mt b) h ld (F x).1 (F x).2 ∧ ∀ b ∈ (F x).2, Mt b ∧ ¬ Fam env stor b
  dis : ∀ x y, x ≠ y → (st.o x).isSome = true → (st.o y).isSome = true → ∀ b ∈ (F x).2, b ∉ (F y).2
  cno : ∀ x c, env.cells.lookup x = some c → ∀ y, (st.o y).isSome = true → c ∉ (F y).2

section
variable {w : World} {h₀ : Heap} {env : Env} {stor : Str → Bool} {B₀ Mt : Addr → Prop} {F : Str → Addr × List Addr} {st : St} {h h' : Heap}

theorem FS.keep (f : FS w h₀ env stor B₀ Mt F st h) (hk : ∀ b o, h.get? b = some o → h'.get? b = some o) : FS w h₀ env stor B₀ Mt F st h' where
  fr := f.fr.keep hk
  own := fun x ld e => let ⟨h1, h2, h3⟩ := f.own x ld e; ⟨h1.keep hk, h2.step (fun b o _ e => hk b o e) (fun b o nb _ => nb), h3⟩
  dis := f.dis
  cno := f.cno

/-- all names, under the outer bans alone -/
theorem FS.all (f : FS w h₀ env stor B₀ Mt F st h) : FE w h₀ env B₀ st.all h where
  kind := f.fr.fe.kind
  gl := f.fr.fe.gl
  bl := f.fr.fe.bl
  nm := f.fr.fe.nm
  base := f.fr.fe.base
  hi := fun b hb => f.fr.fe.hi b (.inl hb)
  lo := fun b hb => f.fr.fe.lo b (.inl hb)
  var := fun x d e => by
    unfold St.all at e
    split at e
    · rename_i d' hd'
      cases e
      obtain ⟨v, h1, h2⟩ := f.fr.fe.var x d hd'
      exact ⟨v, h1, h2.less fun b hb => .inl hb⟩
    · cases ho : st.o x with
      | none => rw [ho] at e; cases e
      | some ld =>
        rw [ho] at e; cases e
        obtain ⟨h1, h2, h3⟩ := f.own x ld ho
        exact ⟨_, h1, h2.rv (fun b hb => .inl hb) fun b hb q => f.fr.dj b q (h3 b hb).1⟩
  cell := f.fr.fe.cell
  cex := f.fr.fe.cex

/-- the own lists given up: none is changed any more -/
theorem FS.freeze (f : FS w h₀ env stor B₀ Mt F st h) : FS w h₀ env stor B₀ (Fam env stor) F st.frozen h where
  fr := {
    fe := {
      kind := f.fr.fe.kind
      gl := f.fr.fe.gl
      bl := f.fr.fe.bl
      nm := f.fr.fe.nm
      base := f.fr.fe.base
      hi := fun b hb => f.fr.fe.hi b (hb.imp id (f.fr.fam b))
      lo := fun b hb => f.fr.fe.lo b (hb.imp id (f.fr.fam b))
      var := fun x d e => by
        have e : st.all x = some d := e
        unfold St.all at e
        split at e
        · rename_i d' hd'
          cases e
          obtain ⟨v, h1, h2⟩ := f.fr.fe.var x d hd'
          exact ⟨v, h1, h2.less fun b hb => hb.imp id (f.fr.fam b)⟩
        · cases ho : st.o x with
          | none => rw [ho] at e; cases e
          | some ld =>
            rw [ho] at e; cases e
            obtain ⟨h1, h2, h3⟩ := f.own x ld ho
            refine ⟨_, h1, h2.rv (fun b hb => hb.imp id (f.fr.fam b)) fun b hb q => ?_⟩
            rcases q with q | q
            · exact f.fr.dj b q (h3 b hb).1
            · exact (h3 b hb).2 q
      cell := f.fr.fe.cell
      cex := f.fr.fe.cex }
    dj := fun b hb q => f.fr.dj b hb (f.fr.fam b q)
    loc := f.fr.loc
    mtl := .inl rfl
    cel := fun x hs hx => by
      obtain ⟨c, v, h1, h2, h3, h4⟩ := f.fr.cel x hs hx
      exact ⟨c, v, h1, h2, .inr ⟨x, hs, hx, h1⟩, h4⟩ }
  own := fun x ld e => by cases e
  dis := fun x y _ e => by cases e
  cno := fun x c _ y e => by cases e
end

end Mine

end

section
open PySem PySem.W PyProof.Rows PySem.SeqAt
set_option Elab.async false
namespace Mine

noncomputable def dropP (m : PE) (x : Str) : PE := fun y => if y = x then none else m y

section
variable {prog : Program} {w : World} {A : Around} {s : Shared} {h₀ : Heap} {env : Env} {stor : Str → Bool} {B₀ Mt : Addr → Prop} {m : PE}

theorem ns_same {h : Heap} {a : Addr} {m1 m2 : Str → Option Value} (h1 : h.Ns a m1) (h2 : h.Ns a m2) : m1 = m2 := by
  obtain ⟨o1, es1, ep1, ho1, hd1, _, hf1⟩ := h1
  obtain ⟨o2, es2, ep2, ho2, hd2, _, hf2⟩ := h2
  rw [ho1] at ho2; cases ho2; rw [hd1] at hd2; cases hd2
  funext y
  rw [← hf1, hf2]

/-- a store of any value -/
theorem store_gen {x : Str} {v : Value} {E : Value → Shared → Prop} {Q : Unit → Shared → Prop} (f : FR w h₀ env stor B₀ Mt m s.heap) (hst : stor x = true) (hk : env.kindOf x = some .local ∨ env.kindOf x = some .cell)
    (hQ : ∀ s', KBut (Fam env stor) s s' → Exs s s' → FR w h₀ env stor B₀ Mt (dropP m x) s'.heap → Var env s'.heap x v → (∀ y v', y ≠ x → Var env s.heap y v' → Var env s'.heap y v') → Q () s') :
    wpAny (model prog w) A (storeName env x v) Q E s := by
  rcases hk with hl | hc
  · obtain ⟨ml, hn⟩ := f.loc
    refine wpAny_storeName_local hl hn (fun h' hn' hs => ?_) (by rw [f.fe.kind]; rfl)
    have hkeep : ∀ b o, ¬ Mt b → s.heap.get? b = some o → h'.get? b = some o := fun b o nb e => sameBut_keep hs b o (fun q => nb (q ▸ f.mtl)) e
    have hex : ∀ b, (∃ o, s.heap.get? b = some o) → ∃ o, h'.get? b = some o := by
      rintro b ⟨o, ho⟩
      by_cases hb : b = env.locals
      · subst hb; obtain ⟨o', _, _, ho', _⟩ := hn'; exact ⟨o', ho'⟩
      · exact ⟨o, sameBut_keep hs b o hb ho⟩
    have hvar : ∀ y v', y ≠ x → Var env s.heap y v' → Var env h' y v' := by
      intro y v' hy hv
      rcases hv with ⟨k, ml', n', e'⟩ | ⟨k, c, lc, e'⟩
      · refine .inl ⟨k, _, hn', ?_⟩
        simp only [hy, if_false]
        rw [ns_same hn n']; exact e'
      · exact .inr ⟨k, c, lc, e'.sameBut hs (ns_ne_cell hn e')⟩
    have hrv : ∀ d' v', RV w s.heap (fun b => B₀ b ∨ Mt b) d' v' → RV w h' (fun b => B₀ b ∨ Mt b) d' v' := fun d' v' r' => RV.step (fun b o nb e => ⟨hkeep b o (fun q => nb (.inr q)) e, nb⟩) d' v' r'
    refine hQ _ ⟨h', _, rfl, fun b o nb e => sameBut_keep hs b o (fun q => nb (.inl q)) e⟩ hex ?_ (.inl ⟨hl, _, hn', by simp⟩) hvar
    refine ⟨⟨f.fe.kind, f.fe.gl, f.fe.bl, f.fe.nm, ?_, fun b hb => hex b (f.fe.hi b hb), f.fe.lo, ?_, f.fe.cell, fun y c e => hex c (f.fe.cex y c e)⟩, f.dj, ⟨_, hn'⟩, f.mtl, ?_⟩
    · intro b o e
      refine sameBut_keep hs b o ?_ (f.fe.base b o e)
      rintro rfl
      rw [f.fe.lo _ (.inr f.mtl)] at e; cases e
    · intro y d' e
      unfold dropP at e
      split at e
      · cases e
      · rename_i hy
        obtain ⟨v', hv, rv'⟩ := f.fe.var y d' e
        exact ⟨v', hvar y v' hy hv, hrv _ _ rv'⟩
    · intro y hs' hy
      obtain ⟨c, v', h1, h2, h3, h4, h5⟩ := f.cel y hs' hy
      exact ⟨c, v', h1, h2.sameBut hs h4, h3, h4, h5⟩
  · obtain ⟨c, v0, h1, h2, h3, h4, h5⟩ := f.cel x hst hc
    obtain ⟨ml, hn⟩ := f.loc
    refine wpAny_storeName_cell f.fe.kind hc h1 h2 fun h' hn' hs => ?_
    have hkeep : ∀ b o, ¬ Mt b → s.heap.get? b = some o → h'.get? b = some o := fun b o nb e => sameBut_keep hs b o (fun q => nb (q ▸ h3)) e
    have hex : ∀ b, (∃ o, s.heap.get? b = some o) → ∃ o, h'.get? b = some o := by
      rintro b ⟨o, ho⟩
      by_cases hb : b = c
      · subst hb; obtain ⟨o', ho', _⟩ := hn'; exact ⟨o', ho'⟩
      · exact ⟨o, sameBut_keep hs b o hb ho⟩
    have hvar : ∀ y v', y ≠ x → Var env s.heap y v' → Var env h' y v' := by
      intro y v' hy hv
      rcases hv with ⟨k, ml', n', e'⟩ | ⟨k, c', lc, e'⟩
      · exact .inl ⟨k, ml', n'.sameBut hs (Ne.symm h4), e'⟩
      · refine .inr ⟨k, c', lc, e'.sameBut hs ?_⟩
        rintro rfl
        exact hy (h5 y lc)
    have hrv : ∀ d' v', RV w s.heap (fun b => B₀ b ∨ Mt b) d' v' → RV w h' (fun b => B₀ b ∨ Mt b) d' v' := fun d' v' r' => RV.step (fun b o nb e => ⟨hkeep b o (fun q => nb (.inr q)) e, nb⟩) d' v' r'
    refine hQ _ ⟨h', s.toks, rfl, fun b o nb e => sameBut_keep hs b o (fun q => nb (.inr ⟨x, hst, hc, q ▸ h1⟩)) e⟩ hex ?_ (.inr ⟨.inl hc, c, h1, hn'⟩) hvar
    refine ⟨⟨f.fe.kind, f.fe.gl, f.fe.bl, f.fe.nm, ?_, fun b hb => hex b (f.fe.hi b hb), f.fe.lo, ?_, f.fe.cell, fun y c e => hex c (f.fe.cex y c e)⟩, f.dj, ⟨ml, hn.sameBut hs (Ne.symm h4)⟩, f.mtl, ?_⟩
    · intro b o e
      refine sameBut_keep hs b o ?_ (f.fe.base b o e)
      rintro rfl
      rw [f.fe.lo _ (.inr h3)] at e; cases e
    · intro y d' e
      unfold dropP at e
      split at e
      · cases e
      · rename_i hy
        obtain ⟨v', hv, rv'⟩ := f.fe.var y d' e
        exact ⟨v', hvar y v' hy hv, hrv _ _ rv'⟩
    · intro y hs' hy
      obtain ⟨c', v', g1, g2, g3, g4, g5⟩ := f.cel y hs' hy
      by_cases hcc : c' = c
      · subst hcc; exact ⟨c', some v, g1, hn', g3, g4, g5⟩
      · exact ⟨c', v', g1, g2.sameBut hs hcc, g3, g4, g5⟩

/-- one more name, told of -/
theorem FR.tell {h : Heap} {x : Str} {d : D} {v : Value} (f : FR w h₀ env stor B₀ Mt (dropP m x) h) (hv : Var env h x v) (r : RV w h (fun b => B₀ b ∨ Mt b) d v) : FR w h₀ env stor B₀ Mt (upd m x d) h where
  fe := { f.fe with
    var := fun y d' e => by
      unfold upd at e
      split at e
      · rename_i hy; subst hy; cases e; exact ⟨v, hv, r⟩
      · rename_i hy; exact f.fe.var y d' (by unfold dropP; rw [if_neg hy]; exact e) }
  dj := f.dj
  loc := f.loc
  mtl := f.mtl
  cel := f.cel

variable {F : Str → Addr × List Addr} {st : St}

/-- a plain store -/
theorem set_ok {x : Str} {d : D} {v : Value} {E : Value → Shared → Prop} {Q : Unit → Shared → Prop} (f : FS w h₀ env stor B₀ Mt F st s.heap) (hst : stor x = true) (hk : env.kindOf x = some .local ∨ env.kindOf x = some .cell)
    (r : RV w s.heap (fun b => B₀ b ∨ Mt b) d v) (hQ : ∀ s', KBut (Fam env stor) s s' → Exs s s' → FS w h₀ env stor B₀ Mt F (st.set x d) s'.heap → Q () s') :
    wpAny (model prog w) A (storeName env x v) Q E s := by
  refine store_gen f.fr hst hk fun s' k ex fr hv hvar => hQ s' k ex ?_
  have stp : ∀ b o, ¬ (B₀ b ∨ Mt b) → s.heap.get? b = some o → s'.heap.get? b = some o ∧ ¬ (B₀ b ∨ Mt b) := fun b o nb e => ⟨kb_heap k b o (fun q => nb (.inr (f.fr.fam b q))) e, nb⟩
  refine ⟨FR.tell fr hv (RV.step stp d v r), fun y ld e => ?_, fun y z hyz hy hz => ?_, fun z c hc y hy => ?_⟩
  · have e' : (if y = x then none else st.o y) = some ld := e
    split at e'
    · cases e'
    rename_i hy
    obtain ⟨h1, h2, h3⟩ := f.own y ld e'
    refine ⟨hvar y _ hy h1, h2.step (fun b o hb e => ?_) (fun b o nb _ => nb), h3⟩
    rcases hb with hb | hb
    · exact kb_heap k b o (h3 b hb).2 e
    · exact (stp b o hb e).1
  · have hy' : ((if y = x then none else st.o y) : Option OD).isSome = true := hy
    have hz' : ((if z = x then none else st.o z) : Option OD).isSome = true := hz
    split at hy'
    · cases hy'
    split at hz'
    · cases hz'
    exact f.dis y z hyz hy' hz'
  · have hy' : ((if y = x then none else st.o y) : Option OD).isSome = true := hy
    split at hy'
    · cases hy'
    exact f.cno z c hc y hy'
end

end Mine

end

section
open PySem PySem.W PyProof.Rows PySem.SeqAt
set_option Elab.async false
namespace Mine

noncomputable def setF (F : Str → Addr × List Addr) (x : Str) (a : Addr) (fp : List Addr) : Str → Addr × List Addr := fun y => if y = x then (a, fp) else F y

section
variable {prog : Program} {w : World} {A : Around} {s : Shared} {h₀ : Heap} {env : Env} {stor : Str → Bool} {B₀ Mt : Addr → Prop} {F : Str → Addr × List Addr} {st : St}

/-- a list of one's own, stored: s the state ahead of its making -/
theorem own_ok {s₀ : Shared} {x : Str} {ld : OD} {a : Addr} {fp : List Addr} (X : Addr → Prop) {E : Value → Shared → Prop} {Q : Unit → Shared → Prop} (f : FS w h₀ env stor B₀ Mt F st s₀.heap) (k₀ : Keeps s₀ s) (hst : stor x = true) (hk : env.kindOf x = some .local ∨ env.kindOf x = some .cell)
    (hown : OwnAt w (fun b => B₀ b ∨ (Mt b ∨ (b ∈ fp ∨ X b))) s.heap ld a fp) (hfp : ∀ b, (b ∈ fp ∨ X b) → s₀.heap.get? b = none ∧ ∃ o, s.heap.get? b = some o)
    (hQ : ∀ s', KBut (Fam env stor) s s' → Exs s s' → FS w h₀ env stor B₀ (fun b => Mt b ∨ (b ∈ fp ∨ X b)) (setF F x a fp) (st.own x ld) s'.heap → Q () s') :
    wpAny (model prog w) A (storeName env x (.ref a)) Q E s := by
  have h0 : ∀ b, (b ∈ fp ∨ X b) → h₀.get? b = none := fun b hb => by
    cases e : h₀.get? b with
    | none => rfl
    | some o => have := f.fr.fe.base b o e; rw [(hfp b hb).1] at this; cases this
  have fr1 : FR w h₀ env stor B₀ (fun b => Mt b ∨ (b ∈ fp ∨ X b)) st.m s.heap := by
    refine f.fr.sub (kp_heap k₀) (fun b hb => hb.imp id fun hb => (hfp b hb).1) (fun y c v _ _ hm => .inl hm) (.inl f.fr.mtl) (fun b hb => ?_) (fun b hb => ?_) (fun y d e => e)
    · rcases hb with hb | hb
      · obtain ⟨o, ho⟩ := f.fr.fe.hi b (.inr hb); exact ⟨o, kp_heap k₀ b o ho⟩
      · exact (hfp b hb).2
    · rcases hb with hb | hb
      · exact f.fr.fe.lo b (.inr hb)
      · exact h0 b hb
  have notFam : ∀ b ∈ fp, ¬ Fam env stor b := fun b hb q => by
    obtain ⟨o, ho⟩ := f.fr.fe.hi b (.inr (f.fr.fam b q))
    rw [(hfp b (.inl hb)).1] at ho; cases ho
  refine store_gen fr1 hst hk fun s' k ex fr hv hvar => hQ s' k ex ⟨fr, fun y ld' e => ?_, fun y z hyz hy hz => ?_, fun z c hc y hy => ?_⟩
  · by_cases hy : y = x
    · subst hy
      have e' : (if y = y then some ld else st.o y) = some ld' := e
      rw [if_pos rfl] at e'; cases e'
      have hF : setF F y a fp y = (a, fp) := by simp [setF]
      rw [hF]
      refine ⟨hv, hown.step (fun b o hb e => ?_) (fun b o nb _ => nb), fun b hb => ⟨.inr (.inl hb), notFam b hb⟩⟩
      rcases hb with hb | hb
      · exact kb_heap k b o (notFam b hb) e
      · exact kb_heap k b o (fun q => hb (.inr (fr1.fam b q))) e
    · have e' : (if y = x then some ld else st.o y) = some ld' := e
      rw [if_neg hy] at e'
      have hF : setF F x a fp y = F y := by simp [setF, hy]
      rw [hF]
      obtain ⟨h1, h2, h3⟩ := f.own y ld' e'
      refine ⟨hvar y _ hy (h1.keep (kp_heap k₀)), ?_, fun b hb => ⟨.inl (h3 b hb).1, (h3 b hb).2⟩⟩
      refine h2.step (fun b o hb e => ?_) (fun b o nb e q => ?_)
      · rcases hb with hb | hb
        · exact kb_heap k b o (h3 b hb).2 (kp_heap k₀ b o e)
        · exact kb_heap k b o (fun q => hb (.inr (f.fr.fam b q))) (kp_heap k₀ b o e)
      · rcases q with q | q | q
        · exact nb (.inl q)
        · exact nb (.inr q)
        · rw [(hfp b q).1] at e; cases e
  · -- apart
    have ex' : ∀ y, y ≠ x → ((if y = x then some ld else st.o y) : Option OD).isSome = true → (st.o y).isSome = true ∧ ∀ b ∈ (F y).2, ∃ o, s₀.heap.get? b = some o := by
      intro y hy h
      rw [if_neg hy] at h
      refine ⟨h, fun b hb => ?_⟩
      cases ho : st.o y with
      | none => rw [ho] at h; cases h
      | some l => exact f.fr.fe.hi b (.inr ((f.own y l ho).2.2 b hb).1)
    have hy' : ((if y = x then some ld else st.o y) : Option OD).isSome = true := hy
    have hz' : ((if z = x then some ld else st.o z) : Option OD).isSome = true := hz
    by_cases hyx : y = x
    · have hzx : z ≠ x := fun q => hyz (hyx.trans q.symm)
      have hFy : setF F x a fp y = (a, fp) := by simp [setF, hyx]
      have hFz : setF F x a fp z = F z := by simp [setF, hzx]
      rw [hFy, hFz]
      intro b hb q
      obtain ⟨o, ho⟩ := (ex' z hzx hz').2 b q
      rw [(hfp b (.inl hb)).1] at ho; cases ho
    · have hFy : setF F x a fp y = F y := by simp [setF, hyx]
      rw [hFy]
      by_cases hzx : z = x
      · have hFz : setF F x a fp z = (a, fp) := by simp [setF, hzx]
        rw [hFz]
        intro b hb q
        obtain ⟨o, ho⟩ := (ex' y hyx hy').2 b hb
        rw [(hfp b (.inl q)).1] at ho; cases ho
      · have hFz : setF F x a fp z = F z := by simp [setF, hzx]
        rw [hFz]
        exact f.dis y z hyz (ex' y hyx hy').1 (ex' z hzx hz').1
  · have hy' : ((if y = x then some ld else st.o y) : Option OD).isSome = true := hy
    by_cases hyx : y = x
    · have hFy : setF F x a fp y = (a, fp) := by simp [setF, hyx]
      rw [hFy]
      intro q
      obtain ⟨o, ho⟩ := f.fr.fe.cex z c hc
      rw [(hfp c (.inl q)).1] at ho; cases ho
    · have hFy : setF F x a fp y = F y := by simp [setF, hyx]
      rw [hFy]
      rw [if_neg hyx] at hy'
      exact f.cno z c hc y hy'

/-- an own list changed in place: only objects of its own are touched -/
theorem FS.mutate {h h' : Heap} {x : Str} {ld ld' : OD} (f : FS w h₀ env stor B₀ Mt F st h) (hx : st.o x = some ld) (hk : ∀ b o, b ∉ (F x).2 → h.get? b = some o → h'.get? b = some o)
    (hex : ∀ b ∈ (F x).2, ∃ o, h'.get? b = some o) (hown : OwnAt w (fun b => B₀ b ∨ Mt b) h' ld' (F x).1 (F x).2) : FS w h₀ env stor B₀ Mt F (st.own x ld') h' := by
  obtain ⟨hv, hoa, hfp⟩ := f.own x ld hx
  have hnf : ∀ b, Fam env stor b → b ∉ (F x).2 := fun b hb q => (hfp b q).2 hb
  have hxs : (st.o x).isSome = true := by rw [hx]; rfl
  have fr' : FR w h₀ env stor B₀ Mt st.m h' := by
    refine f.fr.change (fun b => b ∈ (F x).2) hk (fun b hb => (hfp b hb).1) (fun b hb => hb) (fun b hb => ?_) (hnf _ (.inl rfl)) f.fr.mtl (fun y c hc => ⟨f.cno y c hc x hxs, fun q => q⟩)
    by_cases hb' : b ∈ (F x).2
    · exact hex b hb'
    · obtain ⟨o, ho⟩ := f.fr.fe.hi b (.inr hb); exact ⟨o, hk b o hb' ho⟩
  have hvar : ∀ y v, Var env h y v → Var env h' y v := by
    intro y v hv
    rcases hv with ⟨k, ml, n, e⟩ | ⟨k, c, lc, e⟩
    · exact .inl ⟨k, ml, n.at' fun o e => hk _ o (hnf _ (.inl rfl)) e, e⟩
    · obtain ⟨o, ho, hd⟩ := id e
      exact .inr ⟨k, c, lc, ⟨o, hk c o (f.cno y c lc x hxs) ho, hd⟩⟩
  have issome : ∀ y, ((if y = x then some ld' else st.o y) : Option OD).isSome = true → (st.o y).isSome = true := by
    intro y hy
    split at hy
    · rename_i q; rw [q]; exact hxs
    · exact hy
  refine ⟨?_, fun y l e => ?_, fun y z hyz hy hz => f.dis y z hyz (issome y hy) (issome z hz), fun z c hc y hy => f.cno z c hc y (issome y hy)⟩
  · refine fr'.sub (fun _ _ e => e) (fun b hb => .inl hb) (fun _ _ _ _ _ q => q) fr'.mtl (fun b hb => fr'.fe.hi b (.inr hb)) (fun b hb => fr'.fe.lo b (.inr hb)) (fun y d e => ?_)
    have e' : (if y = x then none else st.m y) = some d := e
    split at e'
    · cases e'
    · exact e'
  · have e' : (if y = x then some ld' else st.o y) = some l := e
    split at e'
    · rename_i q; subst q; cases e'
      exact ⟨hvar _ _ hv, hown, hfp⟩
    · rename_i hy
      obtain ⟨h1, h2, h3⟩ := f.own y l e'
      refine ⟨hvar _ _ h1, h2.step (fun b o hb e => hk b o (fun q => ?_) e) (fun b o nb _ => nb), h3⟩
      rcases hb with hb | hb
      · exact f.dis x y (Ne.symm hy) hxs (by rw [e']; rfl) b q hb
      · exact hb (.inr (hfp b q).1)
end

end Mine

end

section
open PySem PySem.W PyProof.Rows PySem.SeqAt
set_option Elab.async false
namespace Mine

section
variable {prog : Program} {w : World} {A : Around} {s : Shared} {h₀ : Heap} {env : Env} {stor : Str → Bool} {B₀ Mt : Addr → Prop} {F : Str → Addr × List Addr} {st : St} {C : Cx} {n N : Nat}

/-- a value to be kept -/
theorem evK_ok (H : EvOk prog w h₀ N (ev C n env.scope) (itE C n env.scope) env) (hA : AOk A N) (f : FS w h₀ env stor B₀ Mt F st s.heap) {hn : Hint} {e : Expr} {d : D} (he : evK C n env.scope st hn e = some d) :
    Yields prog w A (eval e env) s (fun v h => RV w h (fun b => B₀ b ∨ Mt b) d v) := by
  have strict : ev C n env.scope st.m e = some d → Yields prog w A (eval e env) s (fun v h => RV w h (fun b => B₀ b ∨ Mt b) d v) := fun he => (H.ev st.m e d A _ s he hA f.fr.fe).mono fun v s' k p => p.1
  unfold evK at he
  split at he
  · cases hd : ev C n env.scope st.all e with
    | none => rw [hd] at he; cases he
    | some d' =>
      rw [hd] at he
      have he : (if scalar d' = true then some d' else none) = some d := he
      split at he
      · rename_i hs
        cases he
        exact (H.ev st.all e d A _ s hd hA f.all).mono fun v s' k p => p.1.scalarAny hs
      · cases he
  · exact strict he

theorem Fresh.flat' {B B' : Addr → Prop} {l : List D} {v : Value} {h : Heap} (q : Fresh w s B l v h) (hf : flat l = true) : Fresh w s B' l v h := by
  obtain ⟨a, vs, n, rfl, h1, h2, h3, h4⟩ := q
  exact ⟨a, vs, n, rfl, h1, h2, h3.flatAny hf, h4⟩

theorem evF_ok (H : EvOk prog w h₀ N (ev C n env.scope) (itE C n env.scope) env) (hA : AOk A N) (f : FS w h₀ env stor B₀ Mt F st s.heap) {e : Expr} {l : List D} (he : evF C n env.scope st e = some l) :
    Yields prog w A (eval e env) s (fun v h => Fresh w s (fun b => B₀ b ∨ Mt b) l v h) := by
  unfold evF at he
  split at he
  case isFalse => cases he
  rename_i hfr
  split at he
  · rename_i l' hl'
    split at he
    · rename_i hfl
      cases he
      refine (H.ev st.all e _ A _ s hl' hA f.all).mono fun v s' k p => ?_
      obtain ⟨l2, h1, h2⟩ := p.one hfr
      cases h1
      exact h2.flat' hfl
    · split at he
      · rename_i l2 hl2
        cases he
        refine (H.ev st.m e _ A _ s hl2 hA f.fr.fe).mono fun v s' k p => ?_
        obtain ⟨l3, h1, h2⟩ := p.one hfr
        cases h1
        exact h2
      · cases he
  · cases he

theorem own_of_fresh {l : List D} {v : Value} {h : Heap} (q : Fresh w s (fun b => B₀ b ∨ Mt b) l v h) : ∃ a, v = .ref a ∧ OwnAt w (fun b => B₀ b ∨ (Mt b ∨ b ∈ [a])) h (.one l) a [a] ∧ ∀ b ∈ [a], s.heap.get? b = none ∧ ∃ o, h.get? b = some o := by
  obtain ⟨a, vs, n, rfl, h1, h2, h3, h4⟩ := q
  refine ⟨a, rfl, ⟨rfl, vs, n, h2, h3.less fun b hb => ?_, h4⟩, fun b hb => ?_⟩
  · rcases hb with hb | hb | hb
    · exact .inl (.inl hb)
    · exact .inl (.inr hb)
    · exact .inr (List.mem_singleton.mp hb)
  · rw [List.mem_singleton.mp hb]; exact ⟨h1, _, h2⟩

theorem flats_eq : ∀ (l : List D) (ls : List (List D)), flats l = some ls → l = ls.map .list ∧ ∀ x ∈ ls, flat x = true
  | [], ls, e => by cases e; exact ⟨rfl, by simp⟩
  | .list x :: r, ls, e => by
    unfold flats at e
    split at e
    · rename_i hx
      cases hr : flats r with
      | none => rw [hr] at e; cases e
      | some q =>
        rw [hr] at e; cases e
        obtain ⟨rfl, h2⟩ := flats_eq r q hr
        refine ⟨rfl, fun y hy => ?_⟩
        rcases List.mem_cons.mp hy with rfl | hy
        · exact hx
        · exact h2 y hy
    · cases e
  | .none :: _, ls, e | .bool _ :: _, ls, e | .int _ :: _, ls, e | .str _ :: _, ls, e | .tuple _ :: _, ls, e | .dict _ _ :: _, ls, e | .range _ _ _ :: _, ls, e => by simp [flats] at e

theorem rows_of {B Bn : Addr → Prop} {h : Heap} : ∀ (ls : List (List D)) (as : List Addr), (∀ x ∈ ls, flat x = true) → RVs w h B (ls.map .list) (as.map Value.ref) → Rows2 w Bn h ls as
  | [], as, _, r => by
    have := r.length; simp at this; subst this; exact .nil
  | x :: ls, [], _, r => by have := r.length; simp at this
  | x :: ls, a :: as, hf, r => by
    rw [List.map_cons, List.map_cons] at r
    obtain ⟨v, vs', he, r1, r2⟩ := r.uncons
    cases he
    simp only [RV] at r1
    obtain ⟨b, vs, n, hb, _, h1, h2, h3⟩ := r1
    cases hb
    exact .cons ⟨vs, n, h1, hf x List.mem_cons_self, h2.flatAny (hf x List.mem_cons_self), h3⟩ (rows_of ls as (fun y hy => hf y (List.mem_cons_of_mem _ hy)) r2)

theorem rows_ex {Bn : Addr → Prop} {h : Heap} {ls : List (List D)} {as : List Addr} (r : Rows2 w Bn h ls as) : ∀ b ∈ as, ∃ o, h.get? b = some o := by
  induction r with
  | nil => intro b hb; simp at hb
  | cons q _ ih =>
    intro b hb
    rcases List.mem_cons.mp hb with rfl | hb
    · obtain ⟨_, _, hq, _⟩ := q; exact ⟨_, hq⟩
    · exact ih b hb
end

end Mine

end

section
open PySem PySem.W PyProof.Rows PySem.SeqAt
set_option Elab.async false
namespace Mine

/-- what a statement leaves -/
inductive NextP (w : World) (h₀ : Heap) (env : Env) (stor : Str → Bool) (B₀ Mt : Addr → Prop) (s : Shared) (st : St) (f : Flow) (s' : Shared) : Prop where
  | mk : f = .next → ∀ (Mt' : Addr → Prop) (F' : Str → Addr × List Addr), FS w h₀ env stor B₀ Mt' F' st s'.heap → (∀ b, Mt' b → Mt b ∨ s.heap.get? b = none) → NextP w h₀ env stor B₀ Mt s st f s'
inductive SPost (w : World) (h₀ : Heap) (env : Env) (stor : Str → Bool) (B₀ Mt : Addr → Prop) (s : Shared) (r : Option D × St) (f : Flow) (s' : Shared) : Prop where
  | mk : KBut Mt s s' → Exs s s' → (match r.1 with
    | none => NextP w h₀ env stor B₀ Mt s r.2 f s'
    | some d => ∃ v, f = .ret v ∧ RV w s'.heap B₀ d v) → SPost w h₀ env stor B₀ Mt s r f s'

section
variable {prog : Program} {w : World} {A : Around} {s s' s'' : Shared} {h₀ : Heap} {env : Env} {stor : Str → Bool} {B₀ Mt Mt' : Addr → Prop}

theorem SPost.after {r : Option D × St} {f : Flow} (k : KBut Mt s s') (ex : Exs s s') (hM : ∀ b, Mt' b → Mt b ∨ s.heap.get? b = none) (q : SPost w h₀ env stor B₀ Mt' s' r f s'') : SPost w h₀ env stor B₀ Mt s r f s'' := by
  obtain ⟨k', ex', p⟩ := q
  refine ⟨?_, exs_trans ex ex', ?_⟩
  · obtain ⟨h1, t1, rfl, k1⟩ := k
    obtain ⟨h2, t2, rfl, k2⟩ := k'
    refine ⟨h2, t2, rfl, fun b o nb e => k2 b o (fun q => ?_) (k1 b o nb e)⟩
    rcases hM b q with h | h
    · exact nb h
    · rw [e] at h; cases h
  · split at p
    · obtain ⟨hf, M2, F2, fs, hM2⟩ := p
      refine ⟨hf, M2, F2, fs, fun b hb => ?_⟩
      rcases hM2 b hb with h | h
      · exact hM b h
      · refine .inr ?_
        cases e : s.heap.get? b with
        | none => rfl
        | some o => obtain ⟨o', ho'⟩ := ex b ⟨o, e⟩; rw [ho'] at h; cases h
    · exact p
end

end Mine

end

section
open PySem PySem.W PyProof.Rows PySem.SeqAt
set_option Elab.async false
namespace Mine

section
variable {prog : Program} {w : World} {A : Around} {s : Shared} {h₀ : Heap} {env : Env}

theorem block_fn (h : env.scope.kind = .function) : env.blockKind = .function := by
  unfold Env.blockKind; rw [h]; rfl

theorem swap_eq {ts : List Expr} {value : Expr} {k : Nat} {p : Pos} {r : Option (List Str)} (hk : env.scope.kind = .function) (h : swapQ ts value env.scope = some r) : swappedStores [.Tuple ts k p] value env = pure r := by
  have hb := block_fn hk
  cases value with
  | Tuple vs kv pv =>
    have hst : (vs.any fun | .Starred .. => true | _ => false) = vs.any isStarE := by
      congr 1
    unfold swapQ at h
    unfold swappedStores
    simp only [hb, bne_self_eq_false, Bool.or_false] at h ⊢
    split at h
    · rename_i hc
      cases h
      simp only [hc, if_true]
    · rename_i hc
      simp only [hc]
      rw [if_neg Bool.false_ne_true]
      split at h
      · rename_i h1
        cases h
        exact if_pos h1
      rename_i h1
      refine (if_neg h1).trans ?_
      split at h
      · rename_i h2
        cases h
        exact if_pos h2
      rename_i h2
      refine (if_neg h2).trans ?_
      split at h
      · rename_i h3
        cases h
        exact if_pos h3
      rename_i h3
      refine (if_neg h3).trans ?_
      split at h
      · cases h
      rename_i h4
      cases h
      exact if_neg h4
  | _ => cases h; rfl

/-- a value that is taken with its store exchanged -/
noncomputable def isCompE : Expr → Bool
  | .ListComp .. | .SetComp .. | .DictComp .. => true
  | _ => false

theorem swapsWith_plain {value : Expr} {t : Expr} {line : Nat} (h : isCompE value = false) : swapsWith value (some t) line env = pure false := by
  cases value <;> first | rfl | exact no_tf h
theorem swapsWith_name {value : Expr} {x : Str} {p : Pos} {line : Nat} : ∃ b, swapsWith value (some (.Name x p)) line env = pure b := by
  cases value <;> exact ⟨_, rfl⟩
theorem swapsWith_tuple {value : Expr} {ts : List Expr} {k : Nat} {p : Pos} {line : Nat} : swapsWith value (some (.Tuple ts k p)) line env = pure false := by
  cases value <;> rfl
theorem swapsWith_sub {value o i : Expr} {p : Pos} {line : Nat} : swapsWith value (some (.Subscript o i p)) line env = pure false := by
  cases value <;> rfl
end

end Mine

end

section
open PySem PySem.W PyProof.Rows PySem.SeqAt
set_option Elab.async false
namespace Mine

section
variable {prog : Program} {w : World} {A : Around} {s : Shared} {h₀ : Heap} {env : Env} {stor : Str → Bool} {B₀ Mt : Addr → Prop} {F : Str → Addr × List Addr} {st : St}

/-- more places that may change, all new -/
theorem FS.more {h h' : Heap} {X : Addr → Prop} (f : FS w h₀ env stor B₀ Mt F st h) (hk : ∀ b o, h.get? b = some o → h'.get? b = some o) (hX : ∀ b, X b → h.get? b = none ∧ ∃ o, h'.get? b = some o) : FS w h₀ env stor B₀ (fun b => Mt b ∨ X b) F st h' := by
  have h0 : ∀ b, X b → h₀.get? b = none := fun b hb => by
    cases e : h₀.get? b with
    | none => rfl
    | some o => have := f.fr.fe.base b o e; rw [(hX b hb).1] at this; cases this
  refine ⟨f.fr.sub hk (fun b hb => hb.imp id fun hb => (hX b hb).1) (fun y c v _ _ hm => .inl hm) (.inl f.fr.mtl) (fun b hb => ?_) (fun b hb => ?_) (fun y d e => e), fun x ld e => ?_, f.dis, f.cno⟩
  · rcases hb with hb | hb
    · obtain ⟨o, ho⟩ := f.fr.fe.hi b (.inr hb); exact ⟨o, hk b o ho⟩
    · exact (hX b hb).2
  · rcases hb with hb | hb
    · exact f.fr.fe.lo b (.inr hb)
    · exact h0 b hb
  · obtain ⟨h1, h2, h3⟩ := f.own x ld e
    refine ⟨h1.keep hk, h2.step (fun b o _ e => hk b o e) (fun b o nb e q => ?_), fun b hb => ⟨.inl (h3 b hb).1, (h3 b hb).2⟩⟩
    rcases q with q | q | q
    · exact nb (.inl q)
    · exact nb (.inr q)
    · rw [(hX b q).1] at e; cases e
end

end Mine

end

section
open PySem PySem.W PyProof.Rows PySem.SeqAt
set_option Elab.async false
namespace Mine

section
variable {prog : Program} {w : World} {A : Around} {s : Shared} {h₀ : Heap} {env : Env} {E : Value → Shared → Prop} {Q : Flow → Shared → Prop}

theorem swapped_name {x : Str} {p : Pos} {value : Expr} : swappedStores [.Name x p] value env = pure none := by cases value <;> rfl

theorem assignN_plain {x : Str} {p pos : Pos} {value : Expr} (hsw : swapsWith value (some (.Name x p)) pos.line env = pure false)
    (h : wpAny (model prog w) A (eval value env) (fun v s₁ => wpAny (model prog w) A (storeName env x v) (fun _ => Q .next) E s₁) E s) : wpAny (model prog w) A (exec (.Assign [.Name x p] value pos) env) Q E s := by
  refine wpAny_Assign_stores (wpAny_mono h (fun v s₁ h₁ => ?_) fun _ _ e => e) hsw swapped_name
  show wpAny (model prog w) A (assign (.Name x p) env v) _ E s₁
  exact wpAny_assign_Name h₁

theorem assignN_swap {x : Str} {p pos : Pos} {value : Expr} (hsw : swapsWith value (some (.Name x p)) pos.line env = pure true)
    (h : wpAny (model prog w) A (evalThenUse value env fun v => assign (.Name x p) env v) (fun _ => Q .next) E s) : wpAny (model prog w) A (exec (.Assign [.Name x p] value pos) env) Q E s := by
  rw [arm_exec_Assign]
  refine wpAny_bind (wpAny_standAt ?_)
  show wpAny (model prog w) A (swapsWith value (some (.Name x p)) pos.line env >>= _) Q E s
  rw [hsw]
  refine wpAny_bind (wpAny_pure ?_)
  rw [if_pos rfl]
  exact wpAny_bind (wpAny_mono h (fun _ s' h' => wpAny_pure h') fun _ _ e => e)
end

end Mine

end

section
open PySem PySem.W PyProof.Rows PySem.SeqAt
set_option Elab.async false
namespace Mine

section
variable {prog : Program} {w : World} {A : Around} {s : Shared} {h₀ : Heap} {env : Env} {stor : Str → Bool} {B₀ B₁ Mt : Addr → Prop} {F : Str → Addr × List Addr} {st : St}

/-- more bans, all at new places -/
theorem FS.ban {h h' : Heap} {X : Addr → Prop} (f : FS w h₀ env stor B₀ Mt F st h) (hk : ∀ b o, h.get? b = some o → h'.get? b = some o) (hX : ∀ b, X b → h.get? b = none ∧ ∃ o, h'.get? b = some o) :
    FS w h₀ env stor (fun b => B₀ b ∨ X b) Mt F st h' := by
  have h0 : ∀ b, X b → h₀.get? b = none := fun b hb => by
    cases e : h₀.get? b with
    | none => rfl
    | some o => have := f.fr.fe.base b o e; rw [(hX b hb).1] at this; cases this
  have up : ∀ b o, ¬ (B₀ b ∨ Mt b) → h.get? b = some o → h'.get? b = some o ∧ ¬ ((B₀ b ∨ X b) ∨ Mt b) := fun b o nb e => ⟨hk b o e, fun q => by
    rcases q with (q | q) | q
    · exact nb (.inl q)
    · rw [(hX b q).1] at e; cases e
    · exact nb (.inr q)⟩
  exact {
    fr := {
      fe := {
        kind := f.fr.fe.kind
        gl := f.fr.fe.gl
        bl := f.fr.fe.bl
        nm := f.fr.fe.nm
        base := fun b o e => hk b o (f.fr.fe.base b o e)
        hi := fun b hb => by
          rcases hb with (hb | hb) | hb
          · obtain ⟨o, ho⟩ := f.fr.fe.hi b (.inl hb); exact ⟨o, hk b o ho⟩
          · exact (hX b hb).2
          · obtain ⟨o, ho⟩ := f.fr.fe.hi b (.inr hb); exact ⟨o, hk b o ho⟩
        lo := fun b hb => by
          rcases hb with (hb | hb) | hb
          · exact f.fr.fe.lo b (.inl hb)
          · exact h0 b hb
          · exact f.fr.fe.lo b (.inr hb)
        var := fun x d e => let ⟨v, h1, h2⟩ := f.fr.fe.var x d e; ⟨v, h1.keep hk, RV.step up d v h2⟩
        cell := f.fr.fe.cell
        cex := fun x c e => let ⟨o, ho⟩ := f.fr.fe.cex x c e; ⟨o, hk c o ho⟩ }
      dj := fun b hb q => by
        rcases hb with hb | hb
        · exact f.fr.dj b hb q
        · obtain ⟨o, ho⟩ := f.fr.fe.hi b (.inr q); rw [(hX b hb).1] at ho; cases ho
      loc := let ⟨ml, n⟩ := f.fr.loc; ⟨ml, n.keeps hk⟩
      mtl := f.fr.mtl
      cel := fun x hs hx => let ⟨c, v, h1, h2, h3⟩ := f.fr.cel x hs hx; ⟨c, v, h1, h2.keeps hk, h3⟩ }
    own := fun x ld e => let ⟨h1, h2, h3⟩ := f.own x ld e; ⟨h1.keep hk, h2.step (fun b o _ e => hk b o e) (fun b o nb e => (up b o nb e).2), h3⟩
    dis := f.dis
    cno := f.cno }

/-- banned places changed -/
theorem FS.touchB {h h' : Heap} {Y : Addr → Prop} (f : FS w h₀ env stor B₀ Mt F st h) (hk : ∀ b o, ¬ Y b → h.get? b = some o → h'.get? b = some o) (hY : ∀ b, Y b → B₀ b ∧ ∃ o, h'.get? b = some o)
    (hc : ∀ x c, env.cells.lookup x = some c → ¬ Y c) : FS w h₀ env stor B₀ Mt F st h' := by
  have nY : ∀ b, Mt b → ¬ Y b := fun b hb q => f.fr.dj b (hY b q).1 hb
  have nF : ∀ b, Fam env stor b → ¬ Y b := fun b hb => nY b (f.fr.fam b hb)
  have up : ∀ b o, ¬ (B₀ b ∨ Mt b) → h.get? b = some o → h'.get? b = some o ∧ ¬ (B₀ b ∨ Mt b) := fun b o nb e => ⟨hk b o (fun q => nb (.inl (hY b q).1)) e, nb⟩
  have uv : ∀ x v, Var env h x v → Var env h' x v := fun x v hv => by
    rcases hv with ⟨k, ml, n, e⟩ | ⟨k, c, lc, e⟩
    · exact .inl ⟨k, ml, n.at' fun o e => hk _ o (nF _ (.inl rfl)) e, e⟩
    · obtain ⟨o, ho, hd⟩ := id e
      exact .inr ⟨k, c, lc, ⟨o, hk c o (hc x c lc) ho, hd⟩⟩
  exact {
    fr := {
      fe := {
        kind := f.fr.fe.kind
        gl := f.fr.fe.gl
        bl := f.fr.fe.bl
        nm := f.fr.fe.nm
        base := fun b o e => hk b o (fun q => by rw [f.fr.fe.lo b (.inl (hY b q).1)] at e; cases e) (f.fr.fe.base b o e)
        hi := fun b hb => by
          by_cases q : Y b
          · exact (hY b q).2
          · obtain ⟨o, ho⟩ := f.fr.fe.hi b hb; exact ⟨o, hk b o q ho⟩
        lo := f.fr.fe.lo
        var := fun x d e => let ⟨v, h1, h2⟩ := f.fr.fe.var x d e; ⟨v, uv x v h1, RV.step up d v h2⟩
        cell := f.fr.fe.cell
        cex := fun x c e => let ⟨o, ho⟩ := f.fr.fe.cex x c e; ⟨o, hk c o (hc x c e) ho⟩ }
      dj := f.fr.dj
      loc := let ⟨ml, n⟩ := f.fr.loc; ⟨ml, n.at' fun o e => hk _ o (nF _ (.inl rfl)) e⟩
      mtl := f.fr.mtl
      cel := fun x hs hx => by
        obtain ⟨c, v, h1, h2, h3⟩ := f.fr.cel x hs hx
        obtain ⟨o, ho, hd⟩ := id h2
        exact ⟨c, v, h1, ⟨o, hk c o (hc x c h1) ho, hd⟩, h3⟩ }
    own := fun x ld e => by
      obtain ⟨h1, h2, h3⟩ := f.own x ld e
      refine ⟨uv x _ h1, h2.step (fun b o hb e => hk b o (fun q => ?_) e) (fun b o nb _ => nb), h3⟩
      rcases hb with hb | hb
      · exact nY b (h3 b hb).1 q
      · exact hb (.inl (hY b q).1)
    dis := f.dis
    cno := f.cno }

/-- fewer bans -/
theorem FS.unban {h : Heap} (f : FS w h₀ env stor B₀ Mt F st h) (hB : ∀ b, B₁ b → B₀ b) : FS w h₀ env stor B₁ Mt F st h where
  fr := {
    fe := {
      kind := f.fr.fe.kind
      gl := f.fr.fe.gl
      bl := f.fr.fe.bl
      nm := f.fr.fe.nm
      base := f.fr.fe.base
      hi := fun b hb => f.fr.fe.hi b (hb.imp (hB b) id)
      lo := fun b hb => f.fr.fe.lo b (hb.imp (hB b) id)
      var := fun x d e => let ⟨v, h1, h2⟩ := f.fr.fe.var x d e; ⟨v, h1, h2.less fun b hb => hb.imp (hB b) id⟩
      cell := f.fr.fe.cell
      cex := f.fr.fe.cex }
    dj := fun b hb => f.fr.dj b (hB b hb)
    loc := f.fr.loc
    mtl := f.fr.mtl
    cel := f.fr.cel }
  own := fun x ld e => let ⟨h1, h2, h3⟩ := f.own x ld e; ⟨h1, h2.step (fun b o _ e => e) (fun b o nb _ q => nb (q.imp (hB b) id)), h3⟩
  dis := f.dis
  cno := f.cno
/-- an effect on places that are new is none -/
theorem kb_new {X Y : Addr → Prop} {s s₁ s₂ : Shared} (k₁ : Keeps s s₁) (k₂ : KBut Y s₁ s₂) (h : ∀ b, Y b → X b ∨ s.heap.get? b = none) : KBut X s s₂ := by
  obtain ⟨h1, t1, rfl, k1⟩ := k₁
  obtain ⟨h2, t2, rfl, k2⟩ := k₂
  refine ⟨h2, t2, rfl, fun b o nb e => k2 b o (fun q => ?_) (k1 b o e)⟩
  rcases h b q with h | h
  · exact nb h
  · rw [e] at h; cases h
end

end Mine

end

section
open PySem PySem.W PyProof.Rows PySem.SeqAt
set_option Elab.async false
namespace Mine

section
variable {prog : Program} {w : World} {A : Around}

theorem compD_use {K : Type} [DecidableEq K] (kk : KK prog w K) {h₀ : Heap} {N : Nat} {evf : PE → Expr → Option D} {itf : PE → Expr → Option (List D)} {itO : PE → Expr → Option (List D)} {evO : PE → Expr → Option D} {env : Env} {B : Addr → Prop} {k v : Expr} {g : Comprehension} {scope : Scope} {pos p0 : Pos}
    {m : PE} {l : List D} {d : D} {s : Shared} {use : Option (Value → Sem Unit)} {E : Value → Shared → Prop} {Q : Value → Shared → Prop} (hm : ∃ o, h₀.get? mainGlobals = some o)
    (hA : AOk A N) (HO : EvOk prog w h₀ N evO itO env) (HI : ∀ env' : Env, env'.scope = relabelS scope env.scope → EvOk prog w h₀ N evf itf env') (f : FE w h₀ env B m s.heap)
    (hsc : scopeOk scope env.scope = true) (hit : itO m g.iter = some l)
    (hgens : dictOfG (gensG evf itf scope (emitG kk.chk evf k v) [g] (inner scope m) l) = some d)
    (hQ : ∀ (C : Addr) (v : Value) (s' : Shared), s.heap.get? C = none → (∃ ml, s'.heap.Ns C ml) → Keeps s s' → RV w s'.heap (fun b => B b ∨ b = C) d v → compPost (model prog w) A E use Q v C (.ok .next) s') :
    wpAny (model prog w) A (comprehension (.DictComp k v [g] scope pos) scope env p0 newDict false (eval g.iter env) use) Q E s := by
  unfold dictOfG at hgens
  split at hgens
  · cases hgens
  rename_i rs hrs
  split at hgens
  · cases hgens
  rename_i ps hps
  split at hgens
  case isFalse => cases hgens
  rename_i hlen
  have hl2 := pairUp_length _ _ hps
  refine comp_gen (k := emitG kk.chk evf k v) (G := fun Da => GD kk s Da) hA HO HI f hsc hit hrs (by unfold lim; omega) (isComp_D k v [g] scope pos) (o₀ := { cls := .type "dict", data := .dict #[] }) rfl
    (fun s E Q hq => wpAny_newObj_type hq) (fun cenv stor Da hc => accD_ok kk (HI cenv hc)) (fun Da Bn h hD => ⟨[], [], [], rfl, ⟨_, _, _, hD, ⟨rfl, rfl, rfl⟩, rfl, fun e he => absurd he (Array.not_mem_empty e), .nil, .nil⟩, rfl, .nil, fun p hp => absurd hp List.not_mem_nil, Nat.le_refl _⟩) ?_
  rintro C Da s' hlt hC hDa hne hns hk ⟨ps', kvs, vs, h1, h2, h3, h4, h5, h6⟩ _
  rw [h1, pairUp_flat] at hps
  cases hps
  rw [h3] at hgens
  cases hgens
  have hDaB : ¬ (B Da ∨ Da = C) := fun q => by
    rcases q with q | q
    · obtain ⟨o, ho⟩ := f.hi Da q; rw [hDa] at ho; cases ho
    · exact hne q.symm
  have hsys : Da ≠ sysModules := by
    obtain ⟨o, ho⟩ := hm
    have := hlt _ _ (f.base _ _ ho)
    intro q; subst q
    exact absurd this (by decide)
  exact hQ C (.ref Da) s' hC hns hk (rv_dict kk (B := fun b => B b ∨ b = C) h2 h5 (h4.less fun b hb => .inl hb) hDaB hsys)

/-- a comprehension whose value is used ahead of its variables' going -/
theorem use_ok {h₀ : Heap} {N : Nat} {C : Cx} {mg mb : Str → Option Value} (G : GW prog w C N h₀ mg mb) (n : Nat) (env : Env) (m : PE) (e : Expr) (d : D) (B : Addr → Prop) (s : Shared)
    (h : ev C n env.scope m e = some d) (hA : AOk A N) (fe : FE w h₀ env B m s.heap) (hc : isCompE e = true) {u : Value → Sem Unit} {Q : Shared → Prop} {E : Value → Shared → Prop}
    (hQ : ∀ Cc v s', s.heap.get? Cc = none → (∃ ml, s'.heap.Ns Cc ml) → Keeps s s' → Post w s (fun b => B b ∨ b = Cc) e d v s'.heap →
      wpAny (model prog w) A (u v) (fun _ s'' => ∃ ml, s''.heap.Ns Cc ml ∧ ∀ h', Heap.SameBut Cc s''.heap h' → Q { s'' with heap := h' }) E s') :
    wpAny (model prog w) A (evalThenUse e env u) (fun _ => Q) E s := by
  have hmg : ∃ o, h₀.get? mainGlobals = some o := by obtain ⟨o, _, _, ho, _⟩ := G.g; exact ⟨o, ho⟩
  cases n with
  | zero => exact nns h
  | succ n =>
  have H := sound G n env
  cases e with
  | ListComp elt gens scope pos =>
    refine bndE h fun g hg h => ?_
    cases gens with
    | nil => exact nns hg
    | cons g' gs =>
    cases hg
    refine ifsE h fun hsc h => ?_
    refine bndE h fun l hit h => ?_
    refine bndE h fun rs hrs h => ?_
    refine ifsE h fun hlim h => ?_
    cases h
    obtain ⟨tg, ig, fg, ag⟩ := g
    obtain ⟨rfl, _⟩ := gensG_eq _ _ _ _ _ _ _ _ _ _ _ _ hrs
    show wpAny (model prog w) A (do let _ ← comprehension (.ListComp elt (⟨tg, ig, fg, 0⟩ :: gs) scope pos) scope env _ (newList []) false (eval ig env) (some u)) _ E s
    refine wpAny_bind (wpAny_mono (compL_ok (g := ⟨tg, ig, fg, 0⟩) (use := some u) (Q := fun _ s' => Q s') (E := E) hA H (fun env' he' => by have := sound G n env'; rw [he'] at this; exact this) fe hsc hit hrs hlim fun Cc v s' hC hns hk hfr hv hf2 => ?_) (fun _ s' hq => wpAny_pure hq) fun _ _ e => e)
    refine hQ Cc v s' hC hns hk ⟨?_, fun _ => ⟨_, rfl, hfr⟩, fun q => ?_⟩
    · obtain ⟨a, vs, n', rfl, ha, hl, r, hn⟩ := hfr
      simp only [RV]
      refine ⟨a, vs, n', rfl, fun q => ?_, hl, r.less (fun b hb => .inl hb), hn⟩
      rcases q with q | q
      · obtain ⟨o, ho⟩ := fe.hi a q; rw [ha] at ho; cases ho
      · exact hv (by rw [q])
    · exact hf2 (fresh_of_lst (Bool.and_eq_true_iff.mp q).1)
  | DictComp k v gens scope pos =>
    refine bndE h fun g hg h => ?_
    obtain rfl := sole_inv hg
    refine ifsE h fun hsc h => ?_
    refine bndE h fun l hit h => ?_
    have HI : ∀ env' : Env, env'.scope = relabelS scope env.scope → EvOk prog w h₀ N (ev C n (relabelS scope env.scope)) (itE C n (relabelS scope env.scope)) env' := fun env' he' => by have := sound G n env'; rw [he'] at this; exact this
    have h0 : ∀ {chk : D → Bool} {d : D}, dictOfG (gensG (ev C n (relabelS scope env.scope)) (itE C n (relabelS scope env.scope)) scope (emitG chk (ev C n (relabelS scope env.scope)) k v) [g] (inner scope m) l) = some d → g.is_async = 0 := by
      intro chk d hgens
      unfold dictOfG at hgens
      split at hgens
      · cases hgens
      rename_i rs hrs
      obtain ⟨tg, ig, fg, ag⟩ := g
      exact (gensG_eq _ _ _ _ _ _ _ _ _ _ _ _ hrs).1
    have fin : g.is_async = 0 → (∀ (Q' : Value → Shared → Prop), (∀ (Cc : Addr) (v : Value) (s' : Shared), s.heap.get? Cc = none → (∃ ml, s'.heap.Ns Cc ml) → Keeps s s' → RV w s'.heap (fun b => B b ∨ b = Cc) d v → compPost (model prog w) A E (some u) Q' v Cc (.ok .next) s') →
        wpAny (model prog w) A (comprehension (.DictComp k v [g] scope pos) scope env (firstIterPos [g] pos) newDict false (eval g.iter env) (some u)) Q' E s) → wpAny (model prog w) A (evalThenUse (.DictComp k v [g] scope pos) env u) (fun _ => Q) E s := by
      intro ha hw
      obtain ⟨tg, ig, fg, ag⟩ := g
      simp only at ha; subst ha
      show wpAny (model prog w) A (do let _ ← comprehension (.DictComp k v [⟨tg, ig, fg, 0⟩] scope pos) scope env _ newDict false (eval ig env) (some u)) _ E s
      refine wpAny_bind (wpAny_mono (hw (fun _ s' => Q s') fun Cc v s' hC hns hk rv => ?_) (fun _ s' hq => wpAny_pure hq) fun _ _ e => e)
      exact hQ Cc v s' hC hns hk (post_of rfl rfl rv)
    rcases or_inv h with h | h
    · exact fin (h0 h) fun Q' hq => compD_use (kStr prog w) hmg hA H HI fe hsc hit h hq
    · exact fin (h0 h) fun Q' hq => compD_use (kInt prog w) hmg hA H HI fe hsc hit h hq
  | SetComp => exact nns h
  | _ => exact Bool.noConfusion hc
end

end Mine

end

section
open PySem PySem.W PyProof.Rows PySem.SeqAt
set_option Elab.async false
namespace Mine

section
variable {prog : Program} {w : World} {A : Around} {s : Shared} {h₀ : Heap} {env : Env} {stor : Str → Bool} {B₀ Mt : Addr → Prop} {F : Str → Addr × List Addr} {st st' : St} {C : Cx} {n N : Nat} {mg mb : Str → Option Value}

theorem new_none {s s' : Shared} (k : Keeps s s') {b : Addr} (h : s'.heap.get? b = none) : s.heap.get? b = none := by
  cases e : s.heap.get? b with
  | none => rfl
  | some o => rw [kp_heap k b o e] at h; cases h

theorem spost_next {r : St} {Mt' : Addr → Prop} {F' : Str → Addr × List Addr} {s' : Shared} (k : KBut Mt s s') (ex : Exs s s') (f : FS w h₀ env stor B₀ Mt' F' r s'.heap) (h : ∀ b, Mt' b → Mt b ∨ s.heap.get? b = none) :
    SPost w h₀ env stor B₀ Mt s (none, r) .next s' := ⟨k, ex, rfl, Mt', F', f, h⟩

/-- a place of the frame's that may change goes -/
theorem FS.drop {h h' : Heap} {c : Addr} (f : FS w h₀ env stor B₀ Mt F st h) (hc : Mt c) (hcf : ¬ Fam env stor c) (hcc : ∀ x d, env.cells.lookup x = some d → d ≠ c) (hco : ∀ x, (st.o x).isSome = true → c ∉ (F x).2)
    (hs : Heap.SameBut c h h') : FS w h₀ env stor B₀ (fun b => Mt b ∧ b ≠ c) F st h' := by
  have hk : ∀ b o, ¬ (b = c) → h.get? b = some o → h'.get? b = some o := fun b o nb e => sameBut_keep hs b o nb e
  refine ⟨f.fr.change (fun b => b = c) hk (fun b hb => hb ▸ hc) (fun b hb => hb.1) (fun b hb => ?_) (fun q => hcf (.inl q.symm)) ⟨f.fr.mtl, fun q => hcf (.inl q.symm)⟩ (fun x d hd => ⟨hcc x d hd, fun q => ⟨q, hcc x d hd⟩⟩), fun x ld e => ?_, f.dis, f.cno⟩
  · obtain ⟨o, ho⟩ := f.fr.fe.hi b (.inr hb.1); exact ⟨o, hk b o hb.2 ho⟩
  · obtain ⟨h1, h2, h3⟩ := f.own x ld e
    have hxs : (st.o x).isSome = true := by rw [e]; rfl
    refine ⟨?_, h2.step (fun b o hb e => hk b o (fun q => ?_) e) (fun b o nb _ q => nb (q.imp id (·.1))), fun b hb => ⟨⟨(h3 b hb).1, fun q => hco x hxs (q ▸ hb)⟩, (h3 b hb).2⟩⟩
    · rcases h1 with ⟨k, ml, n, e'⟩ | ⟨k, d, ld', e'⟩
      · exact .inl ⟨k, ml, n.at' fun o e => hk _ o (fun q => hcf (.inl q.symm)) e, e'⟩
      · obtain ⟨o, ho, hd⟩ := id e'
        exact .inr ⟨k, d, ld', ⟨o, hk d o (hcc x d ld') ho, hd⟩⟩
    · subst q
      rcases hb with hb | hb
      · exact hco x hxs hb
      · exact hb (.inr hc)

/-- one name assigned -/
theorem assign_name (G : GW prog w C N h₀ mg mb) (hA : AOk A N) (f : FS w h₀ env stor B₀ Mt F st s.heap) {m : PE} {B : Addr → Prop} {e : Expr} {d : D} {x : Str} {p pos : Pos} (hev : ev C n env.scope m e = some d) (fe : FE w h₀ env B m s.heap)
    (hst : ∀ (X : Addr → Prop) (v : Value) (s₁ : Shared) (R : Unit → Shared → Prop), Keeps s s₁ → (∀ b, X b → s.heap.get? b = none ∧ ∃ o, s₁.heap.get? b = some o) → Post w s (fun b => B b ∨ X b) e d v s₁.heap →
      (∀ (s₂ : Shared) (F' : Str → Addr × List Addr) (fp : Addr → Prop), KBut (Fam env stor) s₁ s₂ → Exs s₁ s₂ → FS w h₀ env stor B₀ (fun b => Mt b ∨ fp b) F' st' s₂.heap → (∀ b, fp b → s.heap.get? b = none) → (∀ b, X b → fp b ∧ ∀ y, (st'.o y).isSome = true → b ∉ (F' y).2) → R () s₂) →
      wpAny (model prog w) A (storeName env x v) R (fun _ _ => False) s₁) :
    wpAny (model prog w) A (exec (.Assign [.Name x p] e pos) env) (SPost w h₀ env stor B₀ Mt s (none, st')) (fun _ _ => False) s := by
  have H := sound G n env
  have plain : swapsWith e (some (.Name x p)) pos.line env = pure false → wpAny (model prog w) A (exec (.Assign [.Name x p] e pos) env) (SPost w h₀ env stor B₀ Mt s (none, st')) (fun _ _ => False) s := by
    intro hsw
    refine assignN_plain hsw ((H.ev m e d A B s hev hA fe).use fun v s₁ k₁ p₁ => ?_)
    refine hst (fun _ => False) v s₁ _ k₁ (fun b hb => hb.elim) ?_ ?_
    · have : (fun b => B b ∨ False) = B := by funext b; simp
      rw [this]; exact p₁
    · intro s₂ F' fp k₂ ex₂ f₂ hfp _
      exact spost_next (kb_trans (kb_of k₁) (kb_mono k₂ f.fr.fam)) (exs_trans (exs_of k₁) ex₂) f₂ fun b hb => hb.imp id (hfp b)
  by_cases hc : isCompE e = true
  · obtain ⟨b, hb⟩ := swapsWith_name (value := e) (x := x) (p := p) (line := pos.line) (env := env)
    cases b with
    | false => exact plain hb
    | true =>
      refine assignN_swap hb (use_ok (Q := fun s' => SPost w h₀ env stor B₀ Mt s (none, st') .next s') G n env m e d B s hev hA fe hc fun Cc v s₁ hC hns k₁ p₁ => wpAny_assign_Name ?_)
      obtain ⟨ml, hml⟩ := hns
      have hCe : ∃ o, s₁.heap.get? Cc = some o := by obtain ⟨o, _, _, ho, _⟩ := hml; exact ⟨o, ho⟩
      refine hst (fun b => b = Cc) v s₁ _ k₁ (fun b hb => by subst hb; exact ⟨hC, hCe⟩) p₁ ?_
      intro s₂ F' fp k₂ ex₂ f₂ hfp hX
      have nFam : ¬ Fam env stor Cc := fun q => by
        obtain ⟨o, ho⟩ := f.fr.fe.hi Cc (.inr (f.fr.fam Cc q)); rw [hC] at ho; cases ho
      refine ⟨ml, hml.at' fun o e => kb_heap k₂ _ o nFam e, fun h' hs' => ?_⟩
      have f₃ := f₂.drop (c := Cc) (.inr (hX Cc rfl).1) nFam (fun y c hc q => by
        obtain ⟨o, ho⟩ := f.fr.fe.cex y c hc; rw [q, hC] at ho; cases ho) (hX Cc rfl).2 hs'
      have kk := kb_trans (kb_of k₁) (kb_mono k₂ f.fr.fam)
      refine spost_next (s' := { s₂ with heap := h' }) ?_ ?_ f₃ fun b hb => hb.1.imp id (hfp b)
      · obtain ⟨h2, t2, rfl, q2⟩ := kk
        exact ⟨h', t2, rfl, fun b o nb e => sameBut_keep hs' b o (fun q => by subst q; rw [hC] at e; cases e) (q2 b o nb e)⟩
      · intro b hb
        obtain ⟨o, ho⟩ := hb
        obtain ⟨o', ho'⟩ := ex₂ b (exs_of k₁ b ⟨o, ho⟩)
        exact ⟨o', sameBut_keep hs' b o' (fun q => by subst q; rw [hC] at ho; cases ho) ho'⟩
  · exact plain (swapsWith_plain (by simpa using hc))

theorem kind_of_store {x : Str} (h : storeOk env.scope x = true) : env.kindOf x = some .local ∨ env.kindOf x = some .cell := by
  unfold storeOk at h
  simp only [Bool.or_eq_true, beq_iff_eq] at h
  exact h

theorem own_notX {X : Addr → Prop} (f : FS w h₀ env stor B₀ Mt F st s.heap) (hX : ∀ b, X b → s.heap.get? b = none) : ∀ b, X b → ∀ y, (st.o y).isSome = true → b ∉ (F y).2 := by
  intro b hb y hy q
  cases e : st.o y with
  | none => rw [e] at hy; cases hy
  | some ld =>
    obtain ⟨o, ho⟩ := f.fr.fe.hi b (.inr ((f.own y ld e).2.2 b q).1)
    rw [hX b hb] at ho; cases ho

theorem set_stmt (G : GW prog w C N h₀ mg mb) (hA : AOk A N) (hs : ∀ x, stor x = true) (f : FS w h₀ env stor B₀ Mt F st s.heap) {hn : Hint} {e : Expr} {d : D} {x : Str} {p pos : Pos} (hx : storeOk env.scope x = true) (he : evK C n env.scope st hn e = some d) :
    wpAny (model prog w) A (exec (.Assign [.Name x p] e pos) env) (SPost w h₀ env stor B₀ Mt s (none, st.set x d)) (fun _ _ => False) s := by
  have key : ∀ (m : PE) (B : Addr → Prop), ev C n env.scope m e = some d → FE w h₀ env B m s.heap → (∀ (X : Addr → Prop) v h, Post w s (fun b => B b ∨ X b) e d v h → RV w h (fun b => B₀ b ∨ (Mt b ∨ X b)) d v) →
      wpAny (model prog w) A (exec (.Assign [.Name x p] e pos) env) (SPost w h₀ env stor B₀ Mt s (none, st.set x d)) (fun _ _ => False) s := by
    intro m B hev fe hrv
    refine assign_name (n := n) G hA f hev fe fun X v s₁ R k₁ hX p₁ hR => ?_
    have f₁ := f.more (kp_heap k₁) hX
    refine set_ok f₁ (hs x) (kind_of_store hx) (hrv X v _ p₁) fun s₂ k₂ ex₂ f₂ => hR s₂ F X k₂ ex₂ f₂ (fun b hb => (hX b hb).1) fun b hb => ⟨hb, fun y hy => ?_⟩
    refine own_notX f (fun b hb => (hX b hb).1) b hb y ?_
    have hy' : ((if y = x then none else st.o y) : Option OD).isSome = true := hy
    split at hy'
    · cases hy'
    · exact hy'
  have strict : ev C n env.scope st.m e = some d → _ := fun he => key st.m _ he f.fr.fe fun X v h q => q.1.less fun b hb => by
    rcases hb with hb | hb | hb
    · exact .inl (.inl hb)
    · exact .inl (.inr hb)
    · exact .inr hb
  unfold evK at he
  split at he
  · cases hd : ev C n env.scope st.all e with
    | none => rw [hd] at he; cases he
    | some d' =>
      rw [hd] at he
      have he : (if scalar d' = true then some d' else none) = some d := he
      split at he
      · rename_i hsc
        cases he
        exact key st.all _ hd f.all fun X v h q => q.1.scalarAny hsc
      · cases he
  · exact strict he

theorem own_isSome {x y : Str} {ld : OD} (h : ((st.own x ld).o y).isSome = true) : y = x ∨ (st.o y).isSome = true := by
  have h' : ((if y = x then some ld else st.o y) : Option OD).isSome = true := h
  split at h'
  · exact .inl (by assumption)
  · exact .inr h'

/-- the store of a list of one's own, with new places X beside it -/
theorem own_store {X : Addr → Prop} {s₁ : Shared} {R : Unit → Shared → Prop} {x : Str} {ld : OD} {a : Addr} {fp : List Addr} (hs : ∀ x, stor x = true) (f : FS w h₀ env stor B₀ Mt F st s.heap) (hx : storeOk env.scope x = true) (k₁ : Keeps s s₁)
    (hX : ∀ b, X b → s.heap.get? b = none ∧ ∃ o, s₁.heap.get? b = some o) (hXf : ∀ b, X b → b ∉ fp) (hown : OwnAt w (fun b => B₀ b ∨ (Mt b ∨ (b ∈ fp ∨ X b))) s₁.heap ld a fp) (hfp : ∀ b ∈ fp, s.heap.get? b = none ∧ ∃ o, s₁.heap.get? b = some o)
    (hR : ∀ (s₂ : Shared) (F' : Str → Addr × List Addr) (fp' : Addr → Prop), KBut (Fam env stor) s₁ s₂ → Exs s₁ s₂ → FS w h₀ env stor B₀ (fun b => Mt b ∨ fp' b) F' (st.own x ld) s₂.heap → (∀ b, fp' b → s.heap.get? b = none) → (∀ b, X b → fp' b ∧ ∀ y, ((st.own x ld).o y).isSome = true → b ∉ (F' y).2) → R () s₂) :
    wpAny (model prog w) A (storeName env x (.ref a)) R (fun _ _ => False) s₁ := by
  have hall : ∀ b, (b ∈ fp ∨ X b) → s.heap.get? b = none ∧ ∃ o, s₁.heap.get? b = some o := fun b hb => hb.elim (hfp b) (hX b)
  refine own_ok X f k₁ (hs x) (kind_of_store hx) hown hall fun s₂ k₂ ex₂ f₂ => hR s₂ _ _ k₂ ex₂ f₂ (fun b hb => (hall b hb).1) fun b hb => ⟨.inr hb, fun y hy => ?_⟩
  by_cases hyx : y = x
  · have hF : setF F x a fp y = (a, fp) := by simp [setF, hyx]
    rw [hF]; exact hXf b hb
  · have hF : setF F x a fp y = F y := by simp [setF, hyx]
    rw [hF]
    rcases own_isSome hy with h | h
    · exact absurd h hyx
    · exact own_notX f (fun b hb => (hX b hb).1) b hb y h

/-- a fresh list, with new places beside it -/
theorem own_fresh {X : Addr → Prop} {l : List D} {v : Value} {h : Heap} (q : Fresh w s (fun b => (B₀ b ∨ Mt b) ∨ X b) l v h) : ∃ a, v = .ref a ∧ OwnAt w (fun b => B₀ b ∨ (Mt b ∨ (b ∈ [a] ∨ X b))) h (.one l) a [a] ∧ ∀ b ∈ [a], s.heap.get? b = none ∧ ∃ o, h.get? b = some o := by
  obtain ⟨a, vs, n, rfl, h1, h2, h3, h4⟩ := q
  refine ⟨a, rfl, ⟨rfl, vs, n, h2, h3.less fun b hb => ?_, h4⟩, fun b hb => ?_⟩
  · rcases hb with hb | hb | hb | hb
    · exact .inl (.inl (.inl hb))
    · exact .inl (.inl (.inr hb))
    · exact .inr (List.mem_singleton.mp hb)
    · exact .inl (.inr hb)
  · rw [List.mem_singleton.mp hb]; exact ⟨h1, _, h2⟩

theorem own_stmt (G : GW prog w C N h₀ mg mb) (hA : AOk A N) (hs : ∀ x, stor x = true) (f : FS w h₀ env stor B₀ Mt F st s.heap) {e : Expr} {l : List D} {x : Str} {p pos : Pos} (hx : storeOk env.scope x = true) (he : evF C n env.scope st e = some l) :
    wpAny (model prog w) A (exec (.Assign [.Name x p] e pos) env) (SPost w h₀ env stor B₀ Mt s (none, st.own x (.one l))) (fun _ _ => False) s := by
  have key : ∀ (m : PE) (B : Addr → Prop), ev C n env.scope m e = some (.list l) → FE w h₀ env B m s.heap → (∀ (X : Addr → Prop) v h, Fresh w s (fun b => B b ∨ X b) l v h → Fresh w s (fun b => (B₀ b ∨ Mt b) ∨ X b) l v h) → isFresh e = true →
      wpAny (model prog w) A (exec (.Assign [.Name x p] e pos) env) (SPost w h₀ env stor B₀ Mt s (none, st.own x (.one l))) (fun _ _ => False) s := by
    intro m B hev fe hrv hfr
    refine assign_name (n := n) G hA f hev fe fun X v s₁ R k₁ hX p₁ hR => ?_
    obtain ⟨l', h1, h2⟩ := p₁.one hfr
    cases h1
    have rv := p₁.1
    obtain ⟨a, rfl, hown, hfp⟩ := own_fresh (hrv X v _ h2)
    refine own_store hs f hx k₁ hX (fun b hb q => ?_) hown hfp hR
    simp only [RV] at rv
    obtain ⟨a', vs, n', ha, nb, _⟩ := rv
    cases ha
    rw [List.mem_singleton.mp q] at hb
    exact nb (.inr hb)
  unfold evF at he
  split at he
  case isFalse => cases he
  rename_i hfr
  split at he
  · rename_i l' hl'
    split at he
    · rename_i hfl
      cases he
      exact key st.all _ hl' f.all (fun X v h q => q.flat' hfl) hfr
    · split at he
      · rename_i l2 hl2
        cases he
        exact key st.m _ hl2 f.fr.fe (fun X v h q => q) hfr
      · cases he
  · cases he

theorem own2_stmt (G : GW prog w C N h₀ mg mb) (hA : AOk A N) (hs : ∀ x, stor x = true) (f : FS w h₀ env stor B₀ Mt F st s.heap) {e : Expr} {ls : List (List D)} {x : Str} {p pos : Pos} (hx : storeOk env.scope x = true) (he : evF2 C n env.scope st e = some ls) :
    wpAny (model prog w) A (exec (.Assign [.Name x p] e pos) env) (SPost w h₀ env stor B₀ Mt s (none, st.own x (.two ls))) (fun _ _ => False) s := by
  unfold evF2 at he
  split at he
  case isFalse => cases he
  rename_i hfr
  split at he
  · rename_i l hl
    obtain ⟨rfl, hf⟩ := flats_eq l ls he
    refine assign_name (n := n) G hA f hl f.all fun X v s₁ R k₁ hX p₁ hR => ?_
    obtain ⟨a, as, n, rfl, g1, g2, g3, g4, g5⟩ := p₁.two hfr
    have rv := p₁.1
    simp only [RV] at rv
    obtain ⟨b, vs, n', hb, nb, h1, h2, h3⟩ := rv
    cases hb
    have h1' : s₁.heap.get? a = _ := h1
    rw [g5] at h1'
    have hvs : vs = as.map Value.ref := by
      have : (as.map Value.ref).toArray = vs.toArray := by
        simp only [Option.some.injEq, Obj.mk.injEq] at h1'
        have := h1'.2.2.1
        injection this
      have := congrArg Array.toList this
      simpa using this.symm
    subst hvs
    have hrows : Rows2 w (fun b => B₀ b ∨ (Mt b ∨ (b ∈ a :: as ∨ X b))) s₁.heap ls as := rows_of ls as hf h2
    have asX : ∀ b ∈ as, ¬ X b := by
      have : ∀ (ls : List (List D)) (as : List Addr), RVs w s₁.heap (fun b => B₀ b ∨ X b) (ls.map .list) (as.map Value.ref) → ∀ b ∈ as, ¬ X b := by
        intro ls
        induction ls with
        | nil => intro as r b hb; have := r.length; simp at this; subst this; simp at hb
        | cons x ls ih =>
          intro as r b hb
          cases as with
          | nil => simp at hb
          | cons c as =>
            rw [List.map_cons, List.map_cons] at r
            obtain ⟨v, vs', he, r1, r2⟩ := r.uncons
            cases he
            rcases List.mem_cons.mp hb with rfl | hb
            · simp only [RV] at r1
              obtain ⟨c', _, _, hc, nb, _⟩ := r1
              cases hc
              exact fun q => nb (.inr q)
            · exact ih as r2 b hb
      exact this ls as h2
    refine own_store (fp := a :: as) (ld := .two ls) hs f hx k₁ hX (fun b hb q => ?_) ⟨as, n, rfl, List.nodup_cons.mpr ⟨g3, g2⟩, g5, hrows, by simpa using h3⟩ (fun b hb => ?_) hR
    · rcases List.mem_cons.mp q with rfl | q
      · exact nb (.inr hb)
      · exact asX b q hb
    · rcases List.mem_cons.mp hb with rfl | hb
      · exact ⟨g1, _, g5⟩
      · exact ⟨g4 b hb, rows_ex hrows b hb⟩
  · cases he
end

end Mine

end

section
open PySem PySem.W PyProof.Rows PySem.SeqAt
set_option Elab.async false
namespace Mine
theorem evF_star {C : Cx} {n : Nat} {st : St} {e : Expr} {l : List D} {sc : Scope} (h : evF C n sc st e = some l) : notStar e = true := by
  refine ifsE h fun hf _ => ?_
  cases e <;> first | rfl | exact absurd hf Bool.false_ne_true

theorem St.ext' {a b : St} (h1 : a.m = b.m) (h2 : a.o = b.o) : a = b := by cases a; cases b; simp only at h1 h2; subst h1 h2; rfl
theorem St.set_comm {st : St} {x y : Str} {d e : D} (h : x ≠ y) : (st.set x d).set y e = (st.set y e).set x d := by
  apply St.ext'
  · funext z
    show upd (upd st.m x d) y e z = upd (upd st.m y e) x d z
    unfold upd
    by_cases h1 : z = y
    · by_cases h2 : z = x
      · exact absurd (h2.symm.trans h1) h
      · simp [h1, Ne.symm h]
    · by_cases h2 : z = x
      · subst h2; simp [h1]
      · simp [h1, h2]
  · funext z
    show (if z = y then none else if z = x then none else st.o z) = (if z = x then none else if z = y then none else st.o z)
    by_cases h1 : z = y <;> by_cases h2 : z = x <;> simp [h1, h2]
theorem St.own_set_comm {st : St} {x y : Str} {l : OD} {e : D} (h : x ≠ y) : (st.own x l).set y e = (st.set y e).own x l := by
  apply St.ext'
  · funext z
    show upd (fun z => if z = x then none else st.m z) y e z = (if z = x then none else upd st.m y e z)
    unfold upd
    by_cases h1 : z = y
    · subst h1; simp [Ne.symm h]
    · by_cases h2 : z = x
      · subst h2; simp [h1]
      · simp [h1, h2]
  · funext z
    show (if z = y then none else if z = x then some l else st.o z) = (if z = x then some l else if z = y then none else st.o z)
    by_cases h1 : z = y
    · subst h1; simp [Ne.symm h]
    · by_cases h2 : z = x
      · subst h2; simp [h1]
      · simp [h1, h2]

noncomputable def setAll : List Str → List D → St → St
  | x :: xs, d :: ds, st => setAll xs ds (st.set x d)
  | _, _, st => st

theorem setAll_snoc : ∀ (xs : List Str) (ds : List D) (x : Str) (d : D) (st : St), xs.length = ds.length → setAll (xs ++ [x]) (ds ++ [d]) st = (setAll xs ds st).set x d
  | [], [], _, _, _, _ => rfl
  | [], _ :: _, _, _, _, h => by simp at h
  | _ :: _, [], _, _, _, h => by simp at h
  | y :: ys, e :: es, x, d, st, h => setAll_snoc ys es x d (st.set y e) (by simpa using h)
theorem setAll_set : ∀ (xs : List Str) (ds : List D) (x : Str) (d : D) (st : St), x ∉ xs → setAll xs ds (st.set x d) = (setAll xs ds st).set x d
  | [], _, _, _, _, _ => by simp [setAll]
  | _ :: _, [], _, _, _, _ => by simp [setAll]
  | y :: ys, e :: es, x, d, st, h => by
    simp only [setAll]
    rw [St.set_comm (fun q => h (by rw [q]; exact List.mem_cons_self))]
    exact setAll_set ys es x d _ (fun q => h (List.mem_cons_of_mem _ q))
theorem setAll_rev : ∀ (xs : List Str) (ds : List D) (st : St), xs.Nodup → xs.length = ds.length → setAll xs.reverse ds.reverse st = setAll xs ds st
  | [], [], _, _, _ => rfl
  | [], _ :: _, _, _, h => by simp at h
  | _ :: _, [], _, _, h => by simp at h
  | x :: xs, d :: ds, st, hn, h => by
    rw [List.reverse_cons, List.reverse_cons, setAll_snoc _ _ _ _ _ (by simpa using h), setAll_rev xs ds st (List.nodup_cons.mp hn).2 (by simpa using h)]
    show _ = setAll xs ds (st.set x d)
    rw [setAll_set _ _ _ _ _ (List.nodup_cons.mp hn).1]

theorem bindSs_eq : ∀ (ts : List Expr) (ds : List D) (st st' : St), bindSs ts ds st = some st' → (∀ t ∈ ts, ∃ x p, t = Expr.Name x p) ∧ ts.length = ds.length ∧ (namesT ts).length = ts.length ∧ st' = setAll (namesT ts) ds st
  | [], [], st, st', e => by cases e; exact ⟨by simp, rfl, rfl, rfl⟩
  | [], _ :: _, st, st', e => by simp [bindSs] at e
  | t :: ts, [], st, st', e => by cases t <;> simp [bindSs] at e
  | t :: ts, d :: ds, st, st', e => by
    cases t with
    | Name x p =>
      obtain ⟨h1, h2, h3, h4⟩ := bindSs_eq ts ds _ st' e
      refine ⟨fun t ht => ?_, by simp [h2], by simp [namesT, h3], h4⟩
      rcases List.mem_cons.mp ht with rfl | ht
      · exact ⟨x, p, rfl⟩
      · exact h1 t ht
    | _ => simp [bindSs] at e

theorem bindS_tuple {ts : List Expr} {k : Nat} {p : Pos} {d : D} {st st' : St} (h : bindS (.Tuple ts k p) d st = some st') : ∃ ds, d = .tuple ds ∧ bindSs ts ds st = some st' := by
  unfold bindS at h
  split at h
  case isFalse => cases h
  cases d with
  | tuple ds => exact ⟨ds, rfl, h⟩
  | _ => simp [bindS0] at h

theorem namesT_mem : ∀ (ts : List Expr) (x : Str), x ∈ namesT ts → ∃ p, Expr.Name x p ∈ ts
  | [], x, h => by simp [namesT] at h
  | t :: ts, x, h => by
    cases t with
    | Name y p =>
      rcases List.mem_cons.mp h with rfl | h
      · exact ⟨p, List.mem_cons_self⟩
      · obtain ⟨p', hp⟩ := namesT_mem ts x h; exact ⟨p', List.mem_cons_of_mem _ hp⟩
    | _ => obtain ⟨p', hp⟩ := namesT_mem ts x h; exact ⟨p', List.mem_cons_of_mem _ hp⟩

theorem filter_names {g : Expr → Option Str} (hg : ∀ t x, g t = some x → ∃ p, t = Expr.Name x p) : ∀ (ts : List Expr), (ts.filterMap g).length = ts.length → ts.filterMap g = namesT ts
  | [], _ => rfl
  | t :: ts, h => by
    cases hx : g t with
    | none =>
      rw [List.filterMap_cons_none hx] at h
      have := List.length_filterMap_le g ts
      simp at h; omega
    | some x =>
      rw [List.filterMap_cons_some hx] at h ⊢
      obtain ⟨p, rfl⟩ := hg t x hx
      rw [filter_names hg ts (by simpa using h)]
      rfl

theorem swapQ_names {ts : List Expr} {value : Expr} {sc : Scope} {names : List Str} (h : swapQ ts value sc = some (some names)) : names = namesT ts := by
  unfold swapQ at h
  split at h
  · split at h
    · cases h
    split at h
    · cases h
    dsimp only at h
    split at h
    · cases h
    rename_i h1 h2 h3
    split at h
    · cases h
    split at h
    · cases h
    cases h
    refine filter_names ?_ ts ?_
    · intro t x hx
      cases t with
      | Name id pos =>
        simp only at hx
        split at hx
        · cases hx; exact ⟨_, rfl⟩
        · cases hx
      | _ => cases hx
    · simp only [Bool.or_eq_true, not_or, bne_iff_ne, ne_eq, Decidable.not_not] at h3
      exact h3.1
  · cases h

section
variable {prog : Program} {w : World} {A : Around} {s : Shared} {h₀ : Heap} {env : Env} {stor : Str → Bool} {B₀ Mt : Addr → Prop} {F : Str → Addr × List Addr} {st st' : St} {C : Cx} {n N : Nat} {mg mb : Str → Option Value}

/-- a list of one's own told of: its places are among those that may change -/
theorem own_tell {x : Str} {ld : OD} {a : Addr} {fp : List Addr} {E : Value → Shared → Prop} {Q : Unit → Shared → Prop} (f : FS w h₀ env stor B₀ Mt F st s.heap) (hst : stor x = true) (hk : env.kindOf x = some .local ∨ env.kindOf x = some .cell)
    (hown : OwnAt w (fun b => B₀ b ∨ Mt b) s.heap ld a fp) (hfp : ∀ b ∈ fp, Mt b ∧ ¬ Fam env stor b) (hdis : ∀ y, (st.o y).isSome = true → ∀ b ∈ fp, b ∉ (F y).2) (hcn : ∀ z c, env.cells.lookup z = some c → c ∉ fp)
    (hQ : ∀ s', KBut (Fam env stor) s s' → Exs s s' → FS w h₀ env stor B₀ Mt (setF F x a fp) (st.own x ld) s'.heap → Q () s') :
    wpAny (model prog w) A (storeName env x (.ref a)) Q E s := by
  refine store_gen f.fr hst hk fun s' k ex fr hv hvar => hQ s' k ex ⟨fr, fun y ld' e => ?_, fun y z hyz hy hz => ?_, fun z c hc y hy => ?_⟩
  · by_cases hy : y = x
    · subst hy
      have e' : (if y = y then some ld else st.o y) = some ld' := e
      rw [if_pos rfl] at e'; cases e'
      have hF : setF F y a fp y = (a, fp) := by simp [setF]
      rw [hF]
      refine ⟨hv, hown.step (fun b o hb e => ?_) (fun b o nb _ => nb), hfp⟩
      rcases hb with hb | hb
      · exact kb_heap k b o (hfp b hb).2 e
      · exact kb_heap k b o (fun q => hb (.inr (f.fr.fam b q))) e
    · have e' : (if y = x then some ld else st.o y) = some ld' := e
      rw [if_neg hy] at e'
      have hF : setF F x a fp y = F y := by simp [setF, hy]
      rw [hF]
      obtain ⟨h1, h2, h3⟩ := f.own y ld' e'
      refine ⟨hvar y _ hy h1, h2.step (fun b o hb e => ?_) (fun b o nb e => nb), h3⟩
      rcases hb with hb | hb
      · exact kb_heap k b o (h3 b hb).2 e
      · exact kb_heap k b o (fun q => hb (.inr (f.fr.fam b q))) e
  · have hy' := own_isSome hy
    have hz' := own_isSome hz
    by_cases hyx : y = x
    · have hzx : z ≠ x := fun q => hyz (hyx.trans q.symm)
      have hFy : setF F x a fp y = (a, fp) := by simp [setF, hyx]
      have hFz : setF F x a fp z = F z := by simp [setF, hzx]
      rw [hFy, hFz]
      exact hdis z (hz'.resolve_left hzx)
    · have hFy : setF F x a fp y = F y := by simp [setF, hyx]
      rw [hFy]
      by_cases hzx : z = x
      · have hFz : setF F x a fp z = (a, fp) := by simp [setF, hzx]
        rw [hFz]
        intro b hb q
        exact hdis y (hy'.resolve_left hyx) b q hb
      · have hFz : setF F x a fp z = F z := by simp [setF, hzx]
        rw [hFz]
        exact f.dis y z hyz (hy'.resolve_left hyx) (hz'.resolve_left hzx)
  · by_cases hyx : y = x
    · have hFy : setF F x a fp y = (a, fp) := by simp [setF, hyx]
      rw [hFy]
      exact hcn z c hc
    · have hFy : setF F x a fp y = F y := by simp [setF, hyx]
      rw [hFy]
      exact f.cno z c hc y ((own_isSome hy).resolve_left hyx)

/-- a way to store a name -/
noncomputable def IsStore (prog : Program) (w : World) (env : Env) (g : Value → Sem Unit) (x : Str) : Prop := ∀ (A : Around) v s (Q : Unit → Shared → Prop) E, wpAny (model prog w) A (storeName env x v) Q E s → wpAny (model prog w) A (g v) Q E s

theorem stores_ok {E : Value → Shared → Prop} (hs : ∀ x, stor x = true) : ∀ (gs : List (Value → Sem Unit)) (xs : List Str) (ds : List D) (vs : List Value) (st : St) (s : Shared) (Q : Unit → Shared → Prop), FS w h₀ env stor B₀ Mt F st s.heap →
    gs.length = xs.length → xs.length = ds.length → (∀ (i : Nat) g x, gs[i]? = some g → xs[i]? = some x → IsStore prog w env g x) → (∀ x ∈ xs, storeOk env.scope x = true) → RVs w s.heap (fun b => B₀ b ∨ Mt b) ds vs →
    (∀ s', KBut (Fam env stor) s s' → Exs s s' → FS w h₀ env stor B₀ Mt F (setAll xs ds st) s'.heap → Q () s') → wpAny (model prog w) A (assignInOrder gs vs) Q E s
  | [], [], [], vs, st, s, Q, f, _, _, _, _, r, hQ => by
    obtain rfl := r.nil_inv
    exact wpAny_pure (hQ s (kb_refl _ _) (fun _ h => h) f)
  | [], [], _ :: _, vs, st, s, Q, f, _, h, _, _, r, hQ => by simp at h
  | [], _ :: _, _, vs, st, s, Q, f, h, _, _, _, r, hQ => by simp at h
  | _ :: _, [], _, vs, st, s, Q, f, h, _, _, _, r, hQ => by simp at h
  | _ :: _, _ :: _, [], vs, st, s, Q, f, _, h, _, _, r, hQ => by simp at h
  | g :: gs, x :: xs, d :: ds, vs, st, s, Q, f, h1, h2, hg, hx, r, hQ => by
    obtain ⟨v, vs', rfl, r1, r2⟩ := r.uncons
    show wpAny _ A (do holding vs' (g v); assignInOrder gs vs') Q E s
    refine wpAny_bind (wpAny_holding (hg 0 g x rfl rfl A v s _ _ (set_ok f (hs x) (kind_of_store (hx x List.mem_cons_self)) r1 fun s' k ex f' => ?_)))
    refine stores_ok hs gs xs ds vs' _ s' Q f' (by simpa using h1) (by simpa using h2) (fun i g x e1 e2 => hg (i + 1) g x (by simpa using e1) (by simpa using e2)) (fun y hy => hx y (List.mem_cons_of_mem _ hy)) (RVs.step (fun b o nb e => ⟨kb_heap k b o (fun q => nb (.inr (f.fr.fam b q))) e, nb⟩) _ _ r2) fun s'' k' ex' f'' => ?_
    exact hQ s'' (kb_trans k k') (exs_trans ex ex') f''

theorem isStore_assign {x : Str} {p : Pos} : IsStore prog w env (assign (.Name x p) env) x := fun _ _ _ _ _ h => wpAny_assign_Name h
theorem isStore_bind {x : Str} : IsStore prog w env (fun v => bindName env x v) x := fun _ _ _ _ _ h => wpAny_bindName h

theorem isStores_assign : ∀ (ts : List Expr), (∀ t ∈ ts, ∃ x p, t = Expr.Name x p) → ∀ (i : Nat) g x, (ts.map fun t => assign t env)[i]? = some g → (namesT ts)[i]? = some x → IsStore prog w env g x
  | [], _, i, g, x, e, _ => by simp at e
  | t :: ts, h, i, g, x, e1, e2 => by
    obtain ⟨y, p, rfl⟩ := h t List.mem_cons_self
    cases i with
    | zero =>
      simp [namesT] at e1 e2
      subst e1 e2
      exact isStore_assign
    | succ i => exact isStores_assign ts (fun t ht => h t (List.mem_cons_of_mem _ ht)) i g x (by simpa using e1) (by simpa [namesT] using e2)

theorem targets_store {sc : Scope} {ts : List Expr} {k : Nat} {p : Pos} (h : targetOk sc (.Tuple ts k p) = true) : ∀ x ∈ namesT ts, storeOk sc x = true := by
  intro x hx
  obtain ⟨p', hp⟩ := namesT_mem ts x hx
  simp only [targetOk, List.all_eq_true] at h
  exact h _ hp

/-- a value goes to a target of names -/
theorem targetS_ok {t : Expr} {d : D} {v : Value} {E : Value → Shared → Prop} {Q : Unit → Shared → Prop} (hs : ∀ x, stor x = true) (hh : A.handled = none) (f : FS w h₀ env stor B₀ Mt F st s.heap) (e : bindS t d st = some st') (ht : targetOk env.scope t = true)
    (r : RV w s.heap (fun b => B₀ b ∨ Mt b) d v) (hQ : ∀ s', KBut (Fam env stor) s s' → Exs s s' → FS w h₀ env stor B₀ Mt F st' s'.heap → Q () s') : wpAny (model prog w) A (assign t env v) Q E s := by
  unfold bindS at e
  split at e
  case isFalse => cases e
  unfold bindS0 at e
  split at e
  · rename_i x p _
    cases e
    refine wpAny_assign_Name (set_ok f (hs x) (kind_of_store ht) r hQ)
  · rename_i ts k p ds _
    simp only [RV] at r
    obtain ⟨a, vs, n, rfl, nb, ho, rs, hl⟩ := r
    obtain ⟨hnames, hlen, hnl, rfl⟩ := bindSs_eq ts ds _ _ e
    obtain ⟨g1, g2, g3⟩ := assignEach_names env ts hnames
    refine wpAny_assign_Tuple (items := vs.toArray) hh ⟨_, ho, rfl, n, rfl⟩ (by rw [g1, hlen]; simp [rs.length]) g2 fun h' hx => ?_
    have hkeep : ∀ b o, s.heap.get? b = some o → h'.get? b = some o := fun b o e => hx b o (Nat.ne_of_lt (Heap.lt_size e)) e
    rw [g3]
    refine stores_ok (F := F) hs _ (namesT ts) ds vs st _ Q (f.keep hkeep) (by simp [hnl]) (by rw [hnl, hlen]) (isStores_assign ts hnames) (targets_store ht) (rs.keep hkeep) fun s' k' ex' f' => ?_
    exact hQ s' (kb_trans (kb_of (kp_mk (tk := s.toks) hkeep)) k') (exs_trans (s' := { s with heap := h' }) (fun b hb => let ⟨o, ho⟩ := hb; ⟨o, hkeep b o ho⟩) ex') f'
  · cases e

/-- a tuple of names assigned -/
theorem tuple_stmt (G : GW prog w C N h₀ mg mb) (hA : AOk A N) (hs : ∀ x, stor x = true) (f : FS w h₀ env stor B₀ Mt F st s.heap) {e : Expr} {d : D} {ts : List Expr} {k : Nat} {p pos : Pos} (ht : targetOk env.scope (.Tuple ts k p) = true) (hnd : (namesT ts).Nodup) (hsw : (swapQ ts e env.scope).isSome = true)
    {hn : Hint} (he : evK C n env.scope st hn e = some d) (hb : bindS (.Tuple ts k p) d st = some st') :
    wpAny (model prog w) A (exec (.Assign [.Tuple ts k p] e pos) env) (SPost w h₀ env stor B₀ Mt s (none, st')) (fun _ _ => False) s := by
  have H := sound G n env
  have hev := evK_ok H hA f he
  cases hq : swapQ ts e env.scope with
  | none => rw [hq] at hsw; cases hsw
  | some r =>
    have hse := swap_eq (k := k) (p := p) f.fr.fe.kind hq
    have hst0 : swapsWithSole [.Tuple ts k p] e pos.line env = pure false := swapsWith_tuple (value := e) (ts := ts) (k := k) (p := p) (line := pos.line) (env := env)
    cases r with
    | none =>
      refine wpAny_Assign_stores (hev.use fun v s₁ k₁ rv => ?_) hst0 hse
      show wpAny (model prog w) A (assign (.Tuple ts k p) env v) _ _ s₁
      refine targetS_ok hs hA.hd (f.keep (kp_heap k₁)) hb ht rv fun s₂ k₂ ex₂ f₂ => ?_
      exact spost_next (kb_trans (kb_of k₁) (kb_mono k₂ f.fr.fam)) (exs_trans (exs_of k₁) ex₂) f₂ fun b hb => .inl hb
    | some names =>
      have hnames := swapQ_names hq
      subst hnames
      refine Assign_Tuple_swapped (hev.use fun v s₁ k₁ rv => ?_) hst0 hse
      obtain ⟨ds, rfl, hb⟩ := bindS_tuple hb
      simp only [RV] at rv
      obtain ⟨a, vs, n', rfl, nb, ho, rs, hl⟩ := rv
      obtain ⟨hnames, hlen, hnl, rfl⟩ := bindSs_eq ts ds _ _ hb
      have hsz : (namesT ts).length = vs.toArray.size := by rw [hnl, hlen]; simp [rs.length]
      rw [hsz]
      refine wpAny_unpackItems_tuple hA.hd ⟨_, ho, rfl, n', rfl⟩ fun h' hx => ?_
      have hkeep : ∀ b o, s₁.heap.get? b = some o → h'.get? b = some o := fun b o e => hx b o (Nat.ne_of_lt (Heap.lt_size e)) e
      have rs' := rs.keep hkeep
      have rrev : RVs w h' (fun b => B₀ b ∨ Mt b) ds.reverse vs.reverse := by
        refine RVs.ofGet (by simp [rs.length]) fun i d v e1 e2 => ?_
        have hi : i < ds.length := by
          have := (List.getElem?_eq_some_iff.mp e1).1
          simpa using this
        rw [List.getElem?_reverse hi] at e1
        rw [List.getElem?_reverse (by rw [rs.length]; exact hi), rs.length] at e2
        obtain ⟨v', hv', rv'⟩ := rs'.get _ _ e1
        rw [e2] at hv'; cases hv'; exact rv'
      refine stores_ok (F := F) hs _ (namesT ts).reverse ds.reverse vs.reverse st _ _ ((f.keep (kp_heap k₁)).keep hkeep) (by simp) (by simp [hnl, hlen]) (fun i g x e1 e2 => ?_) (fun x hx => targets_store ht x (List.mem_reverse.mp hx)) rrev fun s' k' ex' f' => ?_
      · rw [List.getElem?_map, e2] at e1
        cases e1
        exact isStore_bind
      · rw [setAll_rev _ _ _ hnd (by rw [hnl, hlen])] at f'
        refine spost_next (kb_trans (kb_of (kp_trans k₁ (kp_mk (tk := s₁.toks) hkeep))) (kb_mono k' f.fr.fam)) (exs_trans (exs_of k₁) (exs_trans (s' := { s₁ with heap := h' }) (fun b hb => let ⟨o, ho⟩ := hb; ⟨o, hkeep b o ho⟩) ex')) f' fun b hb => .inl hb

end

end Mine

end

section
open PySem PySem.W PyProof.Rows PySem.SeqAt
set_option Elab.async false
namespace Mine

section
variable {prog : Program} {w : World} {A : Around} {s : Shared} {h₀ : Heap} {env : Env} {stor : Str → Bool} {B₀ Mt : Addr → Prop} {F : Str → Addr × List Addr} {st st' : St} {C : Cx} {n N : Nat} {mg mb : Str → Option Value}

theorem RVs.setAt {h : Heap} {B : Addr → Prop} {d : D} {v : Value} : ∀ {l : List D} {vs : List Value} (j : Nat), RVs w h B l vs → RV w h B d v → RVs w h B (l.set j d) (vs.set j v)
  | [], vs, j, r, _ => by obtain rfl := r.nil_inv; simpa using RVs.nil
  | x :: l, vs, j, r, rv => by
    obtain ⟨v', vs', rfl, r1, r2⟩ := r.uncons
    cases j with
    | zero => exact .cons rv r2
    | succ j => exact .cons r1 (RVs.setAt j r2 rv)

theorem Rows2.get {Bn : Addr → Prop} {h : Heap} {ls : List (List D)} {as : List Addr} (r : Rows2 w Bn h ls as) : ∀ (k : Nat) (l : List D), ls[k]? = some l → ∃ b, as[k]? = some b ∧ RowAt w Bn h l b := by
  induction r with
  | nil => intro k l e; simp at e
  | cons q _ ih =>
    intro k l e
    cases k with
    | zero => simp at e; subst e; exact ⟨_, rfl, q⟩
    | succ k => simpa using ih k l (by simpa using e)
theorem Rows2.length {Bn : Addr → Prop} {h : Heap} {ls : List (List D)} {as : List Addr} (r : Rows2 w Bn h ls as) : as.length = ls.length := by
  induction r with
  | nil => rfl
  | cons _ _ ih => simp [ih]
theorem Rows2.snoc {Bn : Addr → Prop} {h : Heap} {ls : List (List D)} {as : List Addr} {l : List D} {b : Addr} (r : Rows2 w Bn h ls as) (q : RowAt w Bn h l b) : Rows2 w Bn h (ls ++ [l]) (as ++ [b]) := by
  induction r with
  | nil => exact .cons q .nil
  | cons q' _ ih => exact .cons q' ih
/-- one row changed -/
theorem Rows2.change {Bn : Addr → Prop} {h h' : Heap} {l' : List D} {b : Addr} : ∀ {ls : List (List D)} {as : List Addr} (k : Nat), Rows2 w Bn h ls as → as.Nodup → as[k]? = some b → RowAt w Bn h' l' b → (∀ c o, c ≠ b → c ∈ as → h.get? c = some o → h'.get? c = some o) → Rows2 w Bn h' (ls.set k l') as
  | _, _, k, .nil, _, e, _, _ => by simp at e
  | _, _, 0, .cons (l := l) (b := c) (ls := ls) (bs := bs) q r, hn, e, hr, hk => by
    simp at e; subst e
    refine .cons hr (r.step fun c' o hc e => hk c' o ?_ (List.mem_cons_of_mem _ hc) e)
    rintro rfl
    exact (List.nodup_cons.mp hn).1 hc
  | _, _, k + 1, .cons (l := l) (b := c) (ls := ls) (bs := bs) q r, hn, e, hr, hk => by
    obtain ⟨vs, m, h1, h2, h3, h4⟩ := q
    have hcb : c ≠ b := by
      rintro rfl
      have : c ∈ bs := List.mem_of_getElem? (by simpa using e)
      exact (List.nodup_cons.mp hn).1 this
    refine .cons ⟨vs, m, hk c _ hcb List.mem_cons_self h1, h2, h3.flatAny h2, h4⟩ (Rows2.change k r (List.nodup_cons.mp hn).2 (by simpa using e) hr fun c o h1 h2 h3 => hk c o h1 (List.mem_cons_of_mem _ h2) h3)

/-- a bound name read -/
theorem var_ok {x : Str} {p : Pos} {v : Value} {E : Value → Shared → Prop} {Q : Value → Shared → Prop} (hk : env.scope.kind = .function) (nm : nmOk env.scope = true) (hv : Var env s.heap x v) (hQ : Q v s) : wpAny (model prog w) A (eval (.Name x p) env) Q E s := by
  simp only [nmOk, Bool.and_eq_true, Option.isNone_iff_eq_none] at nm
  have some_of : ∀ y, kd env.scope y = none → y ≠ x := by
    rintro y hy rfl
    rcases hv with ⟨h1, _⟩ | ⟨h1 | h1, _⟩
    all_goals (have h1' : kd env.scope y = _ := h1; rw [hy] at h1'; cases h1')
  have hnd : (x == ("__debug__" : Str)) = false := by
    rw [beq_eq_false_iff_ne]
    exact fun q => some_of _ nm.1 q.symm
  refine wpAny_Name ?_ hnd
  rcases hv with ⟨h1, ml, hn, hl⟩ | ⟨h1, c, hc, hi⟩
  · exact wpAny_loadName_local hk h1 hn hl hQ
  · rcases h1 with h1 | h1
    · exact wpAny_loadName_cell hk h1 hc hi hQ
    · refine wpAny_loadName_free hk h1 hc hi hQ (hn := ?_)
      rw [beq_eq_false_iff_ne]
      exact fun q => some_of _ nm.2 q.symm

theorem mut_post {s₂ : Shared} {h' : Heap} {x : Str} {ld ld' : OD} (k : Keeps s s₂) (f : FS w h₀ env stor B₀ Mt F st s.heap) (hx : st.o x = some ld) (hk : ∀ b o, b ∉ (F x).2 → s₂.heap.get? b = some o → h'.get? b = some o)
    (hex : ∀ b ∈ (F x).2, ∃ o, h'.get? b = some o) (hown : OwnAt w (fun b => B₀ b ∨ Mt b) h' ld' (F x).1 (F x).2) : SPost w h₀ env stor B₀ Mt s (none, st.own x ld') .next { s₂ with heap := h' } := by
  have f' := (f.keep (kp_heap k)).mutate hx hk hex hown
  obtain ⟨_, _, hfp⟩ := f.own x ld hx
  refine spost_next ?_ ?_ f' fun b hb => .inl hb
  · obtain ⟨h2, t2, rfl, k2⟩ := k
    exact ⟨h', t2, rfl, fun b o nb e => hk b o (fun q => nb (hfp b q).1) (k2 b o e)⟩
  · rintro b ⟨o, ho⟩
    by_cases hb : b ∈ (F x).2
    · exact hex b hb
    · exact ⟨o, hk b o hb (kp_heap k b o ho)⟩

/-- an item of one's own list changed -/
theorem sub_stmt (G : GW prog w C N h₀ mg mb) (hA : AOk A N) (f : FS w h₀ env stor B₀ Mt F st s.heap) {hn : Hint} {e i : Expr} {d : D} {x : Str} {p p' pos : Pos} {l l' : List D} {j : Int}
    (hx : st.o x = some (.one l)) (hi : ev C n env.scope st.all i = some (.int j)) (he : evK C n env.scope st hn e = some d) (hl : setD l j d = some l') :
    wpAny (model prog w) A (exec (.Assign [.Subscript (.Name x p) i p'] e pos) env) (SPost w h₀ env stor B₀ Mt s (none, st.own x (.one l'))) (fun _ _ => False) s := by
  have H := sound G n env
  rw [exec_Assign_Subscript _ _ _ _ _ (swapsWith_sub (value := e) (o := .Name x p) (i := i) (p := p') (line := pos.line) (env := env))]
  refine wpAny_bind (wpAny_standAt (wpAny_bind ((evK_ok H hA f he).use fun v s₁ k₁ rv => wpAny_bind ?_)))
  rw [assign_Subscript]
  have f₁ := f.keep (kp_heap k₁)
  obtain ⟨hv, hoa, hfp⟩ := f₁.own x _ hx
  refine wpAny_bind (wpAny_holding (var_ok f.fr.fe.kind f.fr.fe.nm hv (wpAny_bind (wpAny_holding ((H.ev st.all i _ A _ s₁ hi hA f₁.all).use fun vi s₂ k₂ ri => ?_)))))
  have ri := ri.1
  simp only [RV] at ri
  obtain ⟨t, rfl⟩ := ri
  obtain ⟨hF, vs, m, hL, rs, hlen⟩ := hoa
  have hL₂ := kp_heap k₂ _ _ hL
  have k := kp_trans k₁ k₂
  have rl := rs.length
  cases hj : idxD l.length j with
  | none => unfold setD at hl; rw [hj] at hl; cases hl
  | some q =>
    unfold setD at hl
    rw [hj] at hl
    cases hl
    obtain ⟨h1, h2, h3, h4, h5, h6⟩ := idxD_seq hj
    have h63 := lim63 hlen
    -- the list behind the store
    have fin : ∀ h', h' = s₂.heap.update (F x).1 (Obj.mapSeq (·.setIfInBounds q v)) → SPost w h₀ env stor B₀ Mt s (none, st.own x (.one (l.set q d))) .next { s₂ with heap := h' } := by
      rintro h' rfl
      have hb := Heap.SameBut.update s₂.heap (F x).1 (Obj.mapSeq (·.setIfInBounds q v))
      have hL' := IsL.update hL₂ (·.setIfInBounds q v)
      refine mut_post k f hx (fun b o nb e => sameBut_keep hb b o (fun q => nb (by rw [hF, q]; exact List.mem_cons_self)) e) (fun b hb' => ?_) ⟨hF, vs.set q v, _, by simpa using hL', ?_, by simpa using hlen⟩
      · rw [hF] at hb'; rw [List.mem_singleton.mp hb']; exact ⟨_, hL'⟩
      · have up : ∀ b o, ¬ (B₀ b ∨ Mt b) → s₂.heap.get? b = some o → (s₂.heap.update (F x).1 (Obj.mapSeq (·.setIfInBounds q v))).get? b = some o ∧ ¬ (B₀ b ∨ Mt b) := fun b o nb e => ⟨sameBut_keep hb b o (fun q => nb (.inr (q ▸ (hfp _ (by rw [hF]; exact List.mem_cons_self)).1))) e, nb⟩
        exact RVs.setAt q (RVs.step up _ _ (rs.keep (kp_heap k₂))) (RV.step up _ _ (rv.keep (kp_heap k₂)))
    refine wpAny_bind (wpAny_standAt (wpAny_bind (wpAny_holding ?_)))
    by_cases h0 : 0 ≤ j
    · refine PySem.W.ki_setAt (items := vs.toArray) (n := m) hL₂ h0 (by omega) (by simp only [List.size_toArray]; omega) (wpAny_release (wpAny_pure (fin _ ?_)))
      rw [h5 h0]
    · refine PySem.W.ki_setBack (items := vs.toArray) (n := m) hL₂ (by omega) (by simp only [List.size_toArray]; omega) (by omega) (wpAny_release (wpAny_pure (fin _ ?_)))
      rw [h6 (by omega)]
      simp [rl]

/-- a method of a list called, its value dropped -/
theorem meth1 {o e : Expr} {f : Str} {apos cpos pos : Pos} {id : String} {Q : Flow → Shared → Prop} {E : Value → Shared → Prop} (hk : env.scope.kind = .function) (hb : baseOk o = true) (hl : (apos.endLine == cpos.line) = true) (hse : notStar e = true) (slot : Slot "list" f id) (hty : typeOf (.builtin id) = pure (.type "method_descriptor"))
    (h : wpAny (model prog w) A (eval o env) (fun ov s₁ => ∃ a items n, ov = .ref a ∧ IsL s₁.heap a items n ∧ wpAny (model prog w) A (eval e env) (fun v s₂ => wpAny (model prog w) A (call (.builtin id) [.ref a, v]) (fun _ s₃ => Q .next s₃) E s₂) E s₁) E s) :
    wpAny (model prog w) A (exec (.Expr (.Call (.Attribute o f apos) [e] [] cpos) pos) env) Q E s := by
  refine wpAny_Expr_any ?_ (by unfold interactive; rw [hk]; rfl) rfl
  refine wpAny_Call_method_lateS (base_eq hb f env) (by rw [star_eq hse]; rfl) hl (wpAny_mono h (fun ov s₁ h₁ => ?_) fun _ _ e => e)
  obtain ⟨a, items, n, rfl, hL, h₂⟩ := h₁
  refine ⟨"list", id, PySem.F.plainAttrs_list, slot, hty, ⟨_, hL, rfl⟩, fun b hb => by cases hb; exact ⟨_, hL, rfl⟩, ?_⟩
  rw [star_eq hse]
  show wpAny (model prog w) A (callWith cpos (.builtin id) [.ref a] ((false, eval e env) :: []) []) _ E s₁
  exact Calls.callWith_builtin rfl (Calls.evalArgs_plain (Calls.spliced_cons (wpAny_mono h₂ (fun v s₂ h₃ => Calls.spliced_nil h₃) fun _ _ e => e)))

theorem evK_star {hn : Hint} {e : Expr} {d : D} {sc : Scope} (h : evK C n sc st hn e = some d) : notStar e = true := by
  unfold evK at h
  split at h
  · refine bndE h fun d' hd _ => ?_; exact ev_star hd
  · exact ev_star h
theorem ty_append : typeOf (.builtin "list.append") = pure (.type "method_descriptor") := by show builtinType _ = _; rw [builtinType_eq_fast]; kernel_rfl
theorem ty_extend : typeOf (.builtin "list.extend") = pure (.type "method_descriptor") := by show builtinType _ = _; rw [builtinType_eq_fast]; kernel_rfl

/-- one more item at the end of an own list -/
theorem append_stmt (G : GW prog w C N h₀ mg mb) (hA : AOk A N) (f : FS w h₀ env stor B₀ Mt F st s.heap) {hn : Hint} {e : Expr} {d : D} {x : Str} {p apos cpos pos : Pos} {l : List D}
    (hx : st.o x = some (.one l)) (he : evK C n env.scope st hn e = some d) (hl : (apos.endLine == cpos.line) = true) (hlim : l.length < lim) :
    wpAny (model prog w) A (exec (.Expr (.Call (.Attribute (.Name x p) (Str.ofString "append") apos) [e] [] cpos) pos) env) (SPost w h₀ env stor B₀ Mt s (none, st.own x (.one (l ++ [d])))) (fun _ _ => False) s := by
  have H := sound G n env
  obtain ⟨hv, ⟨hF, vs, m, hL, rs, hlen⟩, hfp⟩ := f.own x _ hx
  refine meth1 f.fr.fe.kind rfl hl (evK_star he) PySem.F.slot_list_append ty_append (var_ok f.fr.fe.kind f.fr.fe.nm hv ⟨_, _, _, rfl, hL, ?_⟩)
  refine (evK_ok H hA f he).use fun v s₁ k₁ rv => ?_
  have hL₁ := kp_heap k₁ _ _ hL
  refine wpAny_list_append_plain (hsz := by rw [List.size_toArray, rs.length]; exact lim_le hlen) ⟨m, hL₁⟩ fun h' hL' hs' => ?_
  obtain ⟨m', hL'⟩ := hL'
  refine mut_post k₁ f hx (fun b o nb e => sameBut_keep hs' b o (fun q => nb (by rw [hF, q]; exact List.mem_cons_self)) e) (fun b hb' => ?_) ⟨hF, vs ++ [v], m', by simpa using hL', ?_, by simp; omega⟩
  · rw [hF] at hb'; rw [List.mem_singleton.mp hb']; exact ⟨_, hL'⟩
  · have up : ∀ b o, ¬ (B₀ b ∨ Mt b) → s₁.heap.get? b = some o → h'.get? b = some o ∧ ¬ (B₀ b ∨ Mt b) := fun b o nb e => ⟨sameBut_keep hs' b o (fun q => nb (.inr (q ▸ (hfp _ (by rw [hF]; exact List.mem_cons_self)).1))) e, nb⟩
    exact (RVs.step up _ _ (rs.keep (kp_heap k₁))).append (.one (RV.step up _ _ rv))

/-- more items at the end of an own list -/
theorem extend_stmt (G : GW prog w C N h₀ mg mb) (hA : AOk A N) (f : FS w h₀ env stor B₀ Mt F st s.heap) {hn : Hint} {e : Expr} {x : Str} {p apos cpos pos : Pos} {l l' : List D}
    (hx : st.o x = some (.one l)) (he : evK C n env.scope st hn e = some (.list l')) (hl : (apos.endLine == cpos.line) = true) (hlim : l.length + l'.length < lim) :
    wpAny (model prog w) A (exec (.Expr (.Call (.Attribute (.Name x p) (Str.ofString "extend") apos) [e] [] cpos) pos) env) (SPost w h₀ env stor B₀ Mt s (none, st.own x (.one (l ++ l')))) (fun _ _ => False) s := by
  have H := sound G n env
  obtain ⟨hv, ⟨hF, vs, m, hL, rs, hlen⟩, hfp⟩ := f.own x _ hx
  refine meth1 f.fr.fe.kind rfl hl (evK_star he) PySem.F.slot_list_extend ty_extend (var_ok f.fr.fe.kind f.fr.fe.nm hv ⟨_, _, _, rfl, hL, ?_⟩)
  refine (evK_ok H hA f he).use fun v s₁ k₁ rv => ?_
  have hL₁ := kp_heap k₁ _ _ hL
  simp only [RV] at rv
  obtain ⟨b, us, m₂, rfl, nb, hb, ru, hu⟩ := rv
  have hsz : vs.toArray.size + us.toArray.size ≤ sizeLine := by
    rw [List.size_toArray, List.size_toArray, rs.length, ru.length]; exact lim_le (by omega)
  refine call_meets PySem.F.slot_list_extend ⟨_, hL₁, rfl⟩ PySem.F.entry_list_extend (PySem.F.args_list_extend_2 _ _) (AutoSeq1.list_extend_list_list_0 _ vs.toArray m b us.toArray m₂ (extend_door hsz) (Nat.le_trans (Nat.le_add_right _ _) hsz) (Nat.le_succ_of_le hsz)) ⟨hL₁, hb, ?_⟩
  have hs' := Heap.SameBut.update s₁.heap (F x).1 (Obj.mapSeq fun x => x ++ us.toArray)
  have hL' := IsL.update hL₁ (fun x => x ++ us.toArray)
  refine mut_post k₁ f hx (fun b o nb e => sameBut_keep hs' b o (fun q => nb (by rw [hF, q]; exact List.mem_cons_self)) e) (fun b hb' => ?_) ⟨hF, vs ++ us, _, by simpa using hL', ?_, by simp; omega⟩
  · rw [hF] at hb'; rw [List.mem_singleton.mp hb']; exact ⟨_, hL'⟩
  · have up : ∀ b o, ¬ (B₀ b ∨ Mt b) → s₁.heap.get? b = some o → (s₁.heap.update (F x).1 (Obj.mapSeq fun x => x ++ us.toArray)).get? b = some o ∧ ¬ (B₀ b ∨ Mt b) := fun b o nb e => ⟨sameBut_keep hs' b o (fun q => nb (.inr (q ▸ (hfp _ (by rw [hF]; exact List.mem_cons_self)).1))) e, nb⟩
    exact (RVs.step up _ _ (rs.keep (kp_heap k₁))).append (RVs.step up _ _ ru)
end

end Mine

end

section
open PySem PySem.W PyProof.Rows PySem.SeqAt
set_option Elab.async false
namespace Mine

section
variable {prog : Program} {w : World} {A : Around} {s : Shared} {h₀ : Heap} {env : Env} {stor : Str → Bool} {B₀ Mt : Addr → Prop} {F : Str → Addr × List Addr} {st st' : St} {C : Cx} {n N : Nat} {mg mb : Str → Option Value}

/-- an own list changed in place, with more places of its own -/
theorem FS.mutate' {h h' : Heap} {x : Str} {ld ld' : OD} {fp : List Addr} (f : FS w h₀ env stor B₀ Mt F st h) (hx : st.o x = some ld) (hk : ∀ b o, b ∉ fp → h.get? b = some o → h'.get? b = some o)
    (hex : ∀ b ∈ fp, ∃ o, h'.get? b = some o) (hfp : ∀ b ∈ fp, Mt b ∧ ¬ Fam env stor b) (hdis : ∀ y, y ≠ x → (st.o y).isSome = true → ∀ b ∈ fp, b ∉ (F y).2) (hcn : ∀ z c, env.cells.lookup z = some c → c ∉ fp)
    (hown : OwnAt w (fun b => B₀ b ∨ Mt b) h' ld' (F x).1 fp) : FS w h₀ env stor B₀ Mt (setF F x (F x).1 fp) (st.own x ld') h' := by
  obtain ⟨hv, hoa, hfp0⟩ := f.own x ld hx
  have hnf : ∀ b, Fam env stor b → b ∉ fp := fun b hb q => (hfp b q).2 hb
  have fr' : FR w h₀ env stor B₀ Mt st.m h' := by
    refine f.fr.change (fun b => b ∈ fp) hk (fun b hb => (hfp b hb).1) (fun b hb => hb) (fun b hb => ?_) (hnf _ (.inl rfl)) f.fr.mtl (fun y c hc => ⟨hcn y c hc, fun q => q⟩)
    by_cases hb' : b ∈ fp
    · exact hex b hb'
    · obtain ⟨o, ho⟩ := f.fr.fe.hi b (.inr hb); exact ⟨o, hk b o hb' ho⟩
  have hvar : ∀ y v, Var env h y v → Var env h' y v := by
    intro y v hv
    rcases hv with ⟨k, ml, n, e⟩ | ⟨k, c, lc, e⟩
    · exact .inl ⟨k, ml, n.at' fun o e => hk _ o (hnf _ (.inl rfl)) e, e⟩
    · obtain ⟨o, ho, hd⟩ := id e
      exact .inr ⟨k, c, lc, ⟨o, hk c o (hcn y c lc) ho, hd⟩⟩
  have hFx : setF F x (F x).1 fp x = ((F x).1, fp) := by simp [setF]
  have hFy : ∀ y, y ≠ x → setF F x (F x).1 fp y = F y := fun y hy => by simp [setF, hy]
  refine ⟨?_, fun y l e => ?_, fun y z hyz hy hz => ?_, fun z c hc y hy => ?_⟩
  · refine fr'.sub (fun _ _ e => e) (fun b hb => .inl hb) (fun _ _ _ _ _ q => q) fr'.mtl (fun b hb => fr'.fe.hi b (.inr hb)) (fun b hb => fr'.fe.lo b (.inr hb)) (fun y d e => ?_)
    have e' : (if y = x then none else st.m y) = some d := e
    split at e'
    · cases e'
    · exact e'
  · have e' : (if y = x then some ld' else st.o y) = some l := e
    split at e'
    · rename_i q; subst q; cases e'
      rw [hFx]
      exact ⟨hvar _ _ hv, hown, hfp⟩
    · rename_i hy
      rw [hFy y hy]
      obtain ⟨h1, h2, h3⟩ := f.own y l e'
      refine ⟨hvar _ _ h1, h2.step (fun b o hb e => hk b o (fun q => ?_) e) (fun b o nb _ => nb), h3⟩
      rcases hb with hb | hb
      · exact hdis y hy (by rw [e']; rfl) b q hb
      · exact hb (.inr (hfp b q).1)
  · have hy' := own_isSome hy
    have hz' := own_isSome hz
    by_cases hyx : y = x
    · have hzx : z ≠ x := fun q => hyz (hyx.trans q.symm)
      rw [hyx, hFx, hFy z hzx]
      exact hdis z hzx (hz'.resolve_left hzx)
    · rw [hFy y hyx]
      by_cases hzx : z = x
      · rw [hzx, hFx]
        intro b hb q
        exact hdis y hyx (hy'.resolve_left hyx) b q hb
      · rw [hFy z hzx]
        exact f.dis y z hyz (hy'.resolve_left hyx) (hz'.resolve_left hzx)
  · by_cases hyx : y = x
    · rw [hyx, hFx]; exact hcn z c hc
    · rw [hFy y hyx]
      exact f.cno z c hc y ((own_isSome hy).resolve_left hyx)

/-- a new row at the end of an own list of lists -/
theorem append2_stmt (G : GW prog w C N h₀ mg mb) (hA : AOk A N) (f : FS w h₀ env stor B₀ Mt F st s.heap) {e : Expr} {d : List D} {x : Str} {p apos cpos pos : Pos} {l : List (List D)}
    (hx : st.o x = some (.two l)) (he : evF C n env.scope st e = some d) (hl : (apos.endLine == cpos.line) = true) (hlim : l.length < lim) (hfl : flat d = true) :
    wpAny (model prog w) A (exec (.Expr (.Call (.Attribute (.Name x p) (Str.ofString "append") apos) [e] [] cpos) pos) env) (SPost w h₀ env stor B₀ Mt s (none, st.own x (.two (l ++ [d])))) (fun _ _ => False) s := by
  have H := sound G n env
  obtain ⟨hv, ⟨as, m, hF, hnd, hL, rows, hlen⟩, hfp⟩ := f.own x _ hx
  refine meth1 f.fr.fe.kind rfl hl (evF_star he) PySem.F.slot_list_append ty_append (var_ok f.fr.fe.kind f.fr.fe.nm hv ⟨_, _, _, rfl, hL, ?_⟩)
  refine (evF_ok H hA f he).use fun v s₁ k₁ fr => ?_
  have hL₁ := kp_heap k₁ _ _ hL
  obtain ⟨b, us, m₂, rfl, hb0, hb, ru, hu⟩ := fr
  refine wpAny_list_append_plain (hsz := by rw [List.size_toArray, List.length_map, rows.length]; exact lim_le hlen) ⟨m, hL₁⟩ fun h' hL' hs' => ?_
  obtain ⟨m', hL'⟩ := hL'
  have f₁ : FS w h₀ env stor B₀ (fun c => Mt c ∨ c = b) F st s₁.heap := f.more (X := fun c => c = b) (kp_heap k₁) (fun c hc => by subst hc; exact ⟨hb0, _, hb⟩)
  have standing : ∀ c ∈ (F x).2, c ≠ b := fun c hc q => by
    obtain ⟨o, ho⟩ := f.fr.fe.hi c (.inr (hfp c hc).1); rw [q, hb0] at ho; cases ho
  have hab : (F x).1 ≠ b := standing _ (by rw [hF]; exact List.mem_cons_self)
  have fp' : ∀ c, c ∈ (F x).1 :: (as ++ [b]) ↔ c ∈ (F x).2 ∨ c = b := fun c => by
    have h1 : (c ∈ (F x).2) = (c ∈ (F x).1 :: as) := congrArg (c ∈ ·) hF
    rw [h1]
    simp only [List.mem_cons, List.mem_append, List.not_mem_nil, or_false, or_assoc]
  have keepR : ∀ c o, c ≠ (F x).1 → s₁.heap.get? c = some o → h'.get? c = some o := fun c o hc e => sameBut_keep hs' c o hc e
  have hrowb : RowAt w (fun c => B₀ c ∨ (Mt c ∨ c = b)) h' d b := ⟨us, m₂, keepR b _ (Ne.symm hab) hb, hfl, ru.flatAny hfl, hu⟩
  have asne : ∀ c ∈ as, c ≠ (F x).1 := fun c hc q => (List.nodup_cons.mp hnd).1 (q ▸ hc)
  have hrows : Rows2 w (fun c => B₀ c ∨ (Mt c ∨ c = b)) h' l as := rows.step fun c o hc e => keepR c o (asne c hc) (kp_heap k₁ c o e)
  have hexc : ∀ c, (c ∈ (F x).2 ∨ c = b) → ∃ o, h'.get? c = some o := by
    intro c hc
    by_cases q : c = (F x).1
    · rw [q]; exact ⟨_, hL'⟩
    · obtain ⟨o, ho⟩ := f₁.fr.fe.hi c (.inr (hc.imp (fun h => (hfp c h).1) id)); exact ⟨o, keepR c o q ho⟩
  have f₂ := f₁.mutate' (ld' := .two (l ++ [d])) (fp := (F x).1 :: (as ++ [b])) hx (fun c o nc e => keepR c o (fun q => nc (by rw [q]; exact List.mem_cons_self)) e) (fun c hc => hexc c ((fp' c).mp hc))
    (fun c hc => by
      rcases (fp' c).mp hc with h | h
      · exact ⟨.inl (hfp c h).1, (hfp c h).2⟩
      · refine ⟨.inr h, fun q => ?_⟩
        obtain ⟨o, ho⟩ := f.fr.fe.hi c (.inr (f.fr.fam c q)); rw [h, hb0] at ho; cases ho)
    (fun y hy hys c hc => by
      rcases (fp' c).mp hc with h | h
      · exact f.dis x y (Ne.symm hy) (by rw [hx]; rfl) hys c h
      · exact own_notX (X := fun c => c = b) f (fun c hc => by subst hc; exact hb0) c h y hys)
    (fun z c hc q => by
      rcases (fp' c).mp q with h | h
      · exact f.cno z c hc x (by rw [hx]; rfl) h
      · obtain ⟨o, ho⟩ := f.fr.fe.cex z c hc; rw [h, hb0] at ho; cases ho)
    ⟨as ++ [b], m', rfl, by
      rw [List.nodup_cons] at hnd ⊢
      refine ⟨fun q => ?_, ?_⟩
      · rcases List.mem_append.mp q with q | q
        · exact hnd.1 q
        · exact hab (List.mem_singleton.mp q)
      · rw [List.nodup_append]
        refine ⟨hnd.2, by simp, fun c hc c' hc' q => ?_⟩
        rw [List.mem_singleton.mp hc'] at q
        exact standing c (by rw [hF]; exact List.mem_cons_of_mem _ hc) q, by simpa using hL', hrows.snoc hrowb, by simp; omega⟩
  refine spost_next (s' := { s₁ with heap := h' }) ?_ ?_ f₂ fun c hc => hc.imp id fun q => by rw [q]; exact hb0
  · obtain ⟨h2, t2, rfl, k2⟩ := k₁
    refine ⟨h', t2, rfl, fun c o nc e => keepR c o (fun q => nc ?_) (k2 c o e)⟩
    rw [q]; exact (hfp _ (by rw [hF]; exact List.mem_cons_self)).1
  · rintro c ⟨o, ho⟩
    by_cases q : c = (F x).1
    · rw [q]; exact ⟨_, hL'⟩
    · exact ⟨o, keepR c o q (kp_heap k₁ c o ho)⟩

/-- one more item at the end of a row -/
theorem row_stmt (G : GW prog w C N h₀ mg mb) (hA : AOk A N) (f : FS w h₀ env stor B₀ Mt F st s.heap) {hn : Hint} {e i : Expr} {d : D} {x : Str} {p pi apos cpos pos : Pos} {l : List (List D)} {l' : List D} {j : Int} {k : Nat}
    (hx : st.o x = some (.two l)) (hi : ev C n env.scope st.all i = some (.int j)) (he : evK C n env.scope st hn e = some d) (hl : (apos.endLine == cpos.line) = true) (hj : idxD l.length j = some k) (hk : l[k]? = some l') (hlim : l'.length < lim) (hsc : scalar d = true) :
    wpAny (model prog w) A (exec (.Expr (.Call (.Attribute (.Subscript (.Name x p) i pi) (Str.ofString "append") apos) [e] [] cpos) pos) env) (SPost w h₀ env stor B₀ Mt s (none, st.own x (.two (l.set k (l' ++ [d]))))) (fun _ _ => False) s := by
  have H := sound G n env
  obtain ⟨hv, ⟨as, m, hF, hnd, hL, rows, hlen⟩, hfp⟩ := f.own x _ hx
  obtain ⟨b, hab, vs, m₂, hLb, hfb, rb, hlb⟩ := rows.get k l' hk
  refine meth1 f.fr.fe.kind rfl hl (evK_star he) PySem.F.slot_list_append ty_append (Subscript_ (var_ok f.fr.fe.kind f.fr.fe.nm hv ((H.ev st.all i _ A _ s hi hA f.all).use fun vi s₁ k₁ ri => ?_)))
  have ri := ri.1
  simp only [RV] at ri
  obtain ⟨t, rfl⟩ := ri
  have hL₁ := kp_heap k₁ _ _ hL
  have hLb₁ : IsL s₁.heap b vs.toArray m₂ := kp_heap k₁ _ _ hLb
  have hLL : s₁.heap.IsList (F x).1 (as.map Value.ref).toArray := ⟨_, hL₁, rfl, m, rfl⟩
  obtain ⟨h1, h2, h3, h4, h5, h6⟩ := idxD_seq hj
  have h63 := lim63 hlen
  have hal := rows.length
  have hget : (as.map Value.ref)[k]? = some (.ref b) := by rw [List.getElem?_map, hab]; rfl
  have cont : ∃ a items n, (Value.ref b) = .ref a ∧ IsL s₁.heap a items n ∧ wpAny (model prog w) A (eval e env) (fun v s₂ => wpAny (model prog w) A (call (.builtin "list.append") [.ref a, v]) (fun _ s₃ => SPost w h₀ env stor B₀ Mt s (none, st.own x (.two (l.set k (l' ++ [d])))) .next s₃) (fun _ _ => False) s₂) (fun _ _ => False) s₁ := by
    refine ⟨b, vs.toArray, m₂, rfl, hLb₁, (evK_ok H hA (f.keep (kp_heap k₁)) he).use fun v s₂ k₂ rv => ?_⟩
    have hLb₂ : IsL s₂.heap b vs.toArray m₂ := kp_heap k₂ _ _ hLb₁
    have kk := kp_trans k₁ k₂
    refine wpAny_list_append_plain (hsz := by rw [List.size_toArray, rb.length]; exact lim_le hlb) ⟨m₂, hLb₂⟩ fun h' hL' hs' => ?_
    obtain ⟨m', hL'⟩ := hL'
    have hbm : b ∈ as := List.mem_of_getElem? hab
    have hbF : b ∈ (F x).2 := by rw [hF]; exact List.mem_cons_of_mem _ hbm
    have hne : (F x).1 ≠ b := fun q => (List.nodup_cons.mp hnd).1 (q ▸ hbm)
    refine mut_post kk f hx (fun c o nc e => sameBut_keep hs' c o (fun q => nc (q ▸ hbF)) e) (fun c hc => ?_) ⟨as, m, hF, hnd, sameBut_keep hs' _ _ hne (kp_heap kk _ _ hL), ?_, by simpa using hlen⟩
    · by_cases q : c = b
      · rw [q]; exact ⟨_, hL'⟩
      · obtain ⟨o, ho⟩ := f.fr.fe.hi c (.inr (hfp c hc).1); exact ⟨o, sameBut_keep hs' c o q (kp_heap kk c o ho)⟩
    · refine Rows2.change k rows (List.nodup_cons.mp hnd).2 hab ⟨vs ++ [v], m', by simpa using hL', ?_, ?_, by simp; omega⟩ fun c o hc hca e => sameBut_keep hs' c o hc (kp_heap kk c o e)
      · simp only [flat, List.all_append, Bool.and_eq_true]
        exact ⟨hfb, by simpa using hsc⟩
      · exact (rb.flatAny hfb).append (.one (rv.scalarAny hsc))
  refine tail_any hLL.typeIs slot_list_getitem.lookup ?_ (subscripted_plain (ev_notSlice hi) _ _)
  by_cases h0 : 0 ≤ j
  · exact wpAny_getItem_list hLL h0 (by omega) (by rw [← h5 h0]; simpa using hget) cont
  · refine wpAny_getItem_list_neg hLL (by omega) (by simp only [List.size_toArray, List.length_map]; omega) (by omega) ?_ cont
    rw [show (j + ((as.map Value.ref).toArray.size : Int)).toNat = k by rw [h6 (by omega)]; simp [hal]]
    simpa using hget

/-- two names assigned one value -/
theorem two_stmt (G : GW prog w C N h₀ mg mb) (hA : AOk A N) (hs : ∀ x, stor x = true) (f : FS w h₀ env stor B₀ Mt F st s.heap) {hn : Hint} {e : Expr} {d : D} {x y : Str} {p p' pos : Pos} (hx : storeOk env.scope x = true) (hy : storeOk env.scope y = true) (he : evK C n env.scope st hn e = some d) :
    wpAny (model prog w) A (exec (.Assign [.Name x p, .Name y p'] e pos) env) (SPost w h₀ env stor B₀ Mt s (none, (st.set x d).set y d)) (fun _ _ => False) s := by
  have H := sound G n env
  refine wpAny_Assign_two ((evK_ok H hA f he).use fun v s₁ k₁ rv => ?_) rfl (by cases e <;> rfl)
  have f₁ := f.keep (kp_heap k₁)
  refine wpAny_assign_Name (set_ok f₁ (hs x) (kind_of_store hx) rv fun s₂ k₂ ex₂ f₂ => ?_)
  have rv₂ : RV w s₂.heap (fun b => B₀ b ∨ Mt b) d v := RV.step (fun b o nb e => ⟨kb_heap k₂ b o (fun q => nb (.inr (f.fr.fam b q))) e, nb⟩) d v rv
  refine wpAny_assign_Name (set_ok f₂ (hs y) (kind_of_store hy) rv₂ fun s₃ k₃ ex₃ f₃ => ?_)
  exact spost_next (kb_trans (kb_of k₁) (kb_mono (kb_trans k₂ k₃) f.fr.fam)) (exs_trans (exs_of k₁) (exs_trans ex₂ ex₃)) f₃ fun b hb => .inl hb

/-- += and -= of ints -/
theorem aug_stmt (G : GW prog w C N h₀ mg mb) (hA : AOk A N) (hs : ∀ x, stor x = true) (f : FS w h₀ env stor B₀ Mt F st s.heap) {op : Operator} {e : Expr} {x : Str} {p pos : Pos} {a b r : Int} (hx : storeOk env.scope x = true) (ha : nameD C env.scope st.m x = some (.int a)) (he : ev C n env.scope st.m e = some (.int b))
    (ho : (op = .Add ∧ r = a + b) ∨ (op = .Sub ∧ r = a - b)) :
    wpAny (model prog w) A (exec (.AugAssign (.Name x p) op e pos) env) (SPost w h₀ env stor B₀ Mt s (none, st.set x (.int r))) (fun _ _ => False) s := by
  have H := sound G n env
  have hm : st.m x = some (.int a) := by
    unfold nameD at ha
    unfold storeOk at hx
    simp only [Bool.or_eq_true, beq_iff_eq] at hx
    rcases hx with hx | hx <;> rw [hx] at ha <;> exact ha
  obtain ⟨v, hv, rv⟩ := f.fr.fe.var x _ hm
  simp only [RV] at rv
  obtain ⟨t, rfl⟩ := rv
  refine wpAny_AugAssign_Name ?_
  have hload : wpAny (model prog w) A (loadName env x) (fun v s₁ => v = .int a t ∧ s₁ = s) (fun _ _ => False) s := by
    rcases hv with ⟨h1, ml, hn, hl⟩ | ⟨h1, c, hc, hi⟩
    · exact wpAny_loadName_local f.fr.fe.kind h1 hn hl ⟨rfl, rfl⟩
    · rcases h1 with h1 | h1
      · exact wpAny_loadName_cell f.fr.fe.kind h1 hc hi ⟨rfl, rfl⟩
      · exfalso
        have h1' : kd env.scope x = some .free := h1
        unfold storeOk at hx
        rw [h1'] at hx
        revert hx; decide
  refine wpAny_mono hload (fun v s₁ h₁ => ?_) fun _ _ e => e
  obtain ⟨rfl, rfl⟩ := h₁
  refine (H.ev st.m e _ A _ s₁ he hA f.fr.fe).use fun v s₂ k₂ rv => ?_
  have rv := rv.1
  simp only [RV] at rv
  obtain ⟨u, rfl⟩ := rv
  have fin : ∀ tk, wpAny (model prog w) A (storeName env x (.int r tk)) (fun _ => SPost w h₀ env stor B₀ Mt s₁ (none, st.set x (.int r)) .next) (fun _ _ => False) { s₂ with toks := s₂.toks + 1 } := by
    intro tk
    have k₃ : Keeps s₁ { s₂ with toks := s₂.toks + 1 } := kp_trans k₂ (kp_tok s₂ _)
    refine set_ok (f.keep (kp_heap k₃)) (hs x) (kind_of_store hx) rv_int fun s₃ k₄ ex₄ f₄ => ?_
    exact spost_next (kb_trans (kb_of k₃) (kb_mono k₄ f.fr.fam)) (exs_trans (exs_of k₃) ex₄) f₄ fun b hb => .inl hb
  rcases ho with ⟨rfl, rfl⟩ | ⟨rfl, rfl⟩
  · exact PySem.AutoIntOps.iadd_0 (fin _)
  · exact PySem.AutoIntOps.isub_0 (fin _)
end

end Mine

end

section
open PySem PySem.W PyProof.Rows PySem.SeqAt
set_option Elab.async false
namespace Mine

noncomputable def ExOk (prog : Program) (w : World) (h₀ : Heap) (N : Nat) (C : Cx) (n : Nat) : Prop :=
  ∀ (env : Env) (stor : Str → Bool) (B₀ Mt : Addr → Prop) (F : Str → Addr × List Addr) (st : St) (A : Around) (s : Shared) (c : Stmt) (r : Option D × St), (∀ x, stor x = true) → AOk A N → FS w h₀ env stor B₀ Mt F st s.heap → ex C n env.scope st c = some r →
    wpAny (model prog w) A (exec c env) (SPost w h₀ env stor B₀ Mt s r) (fun _ _ => False) s
noncomputable def ExsOk (prog : Program) (w : World) (h₀ : Heap) (N : Nat) (C : Cx) (n : Nat) : Prop :=
  ∀ (env : Env) (stor : Str → Bool) (B₀ Mt : Addr → Prop) (F : Str → Addr × List Addr) (st : St) (A : Around) (s : Shared) (c : List Stmt) (r : Option D × St), (∀ x, stor x = true) → AOk A N → FS w h₀ env stor B₀ Mt F st s.heap → exs C n env.scope st c = some r →
    wpAny (model prog w) A (execs c env) (SPost w h₀ env stor B₀ Mt s r) (fun _ _ => False) s

/-- a while's state, before a turn -/
inductive WInv (w : World) (h₀ : Heap) (env : Env) (stor : Str → Bool) (B₀ Mt : Addr → Prop) (s : Shared) (C : Cx) (n : Nat) (t : Expr) (b : List Stmt) (r : Option D × St) (k : Nat) (s' : Shared) : Prop where
  | mk : k ≤ n → ∀ (st' : St) (Mt' : Addr → Prop) (F' : Str → Addr × List Addr), FS w h₀ env stor B₀ Mt' F' st' s'.heap → exw C k env.scope st' t b = some r → KBut Mt s s' → Exs s s' → (∀ b, Mt' b → Mt b ∨ s.heap.get? b = none) → WInv w h₀ env stor B₀ Mt s C n t b r k s'
section
variable {prog : Program} {w : World} {A : Around} {s : Shared} {h₀ : Heap} {env : Env} {stor : Str → Bool} {B₀ Mt : Addr → Prop} {F : Str → Addr × List Addr} {st st' : St} {C : Cx} {n N : Nat} {mg mb : Str → Option Value}

theorem exs_step (he : ExOk prog w h₀ N C n) (hs : ExsOk prog w h₀ N C n) : ExsOk prog w h₀ N C (n + 1) := by
  intro env stor B₀ Mt F st A s c r hst hA f h
  cases c with
  | nil =>
    have h : some (none, st) = some r := h
    cases h
    exact wpAny_execs_nil (spost_next (kb_refl _ _) (fun _ h => h) f fun b hb => .inl hb)
  | cons c cs =>
    refine bndE h fun pat0 hx h => ?_; obtain ⟨ro, st'⟩ := pat0
    refine wpAny_execs_cons (wpAny_mono (he env stor B₀ Mt F st A s c _ hst hA f hx) (fun fl s' p => ?_) fun _ _ e => e)
    cases ro with
    | none =>
      obtain ⟨k, ex, hf, Mt', F', f', hM⟩ := p
      subst hf
      exact wpAny_mono (hs env stor B₀ Mt' F' st' A s' cs r hst hA f' h) (fun fl s'' p => p.after k ex hM) fun _ _ e => e
    | some d =>
      obtain ⟨k, ex, v, rfl, rv⟩ := id p
      cases h
      exact p

theorem while_ok (G : GW prog w C N h₀ mg mb) (hs : ∀ x, stor x = true) (hA : AOk A N) (ih : ∀ k, k < n → ExsOk prog w h₀ N C k) {t : Expr} {b : List Stmt} {r : Option D × St} (f : FS w h₀ env stor B₀ Mt F st s.heap) (h : exw C n env.scope st t b = some r) :
    codeAny (model prog w) A (.whileLoop t b [] env) (fun res s' => ∃ fl, res = .ok fl ∧ SPost w h₀ env stor B₀ Mt s r fl s') s := by
  refine codeAny_whileLoop (WInv w h₀ env stor B₀ Mt s C n t b r) ?_ n
    ⟨Nat.le_refl _, st, Mt, F, f, h, kb_refl _ _, fun _ h => h, fun b hb => .inl hb⟩
  rintro k s' ⟨hk, st', Mt', F', f', h', kb, ex, hM⟩
  cases k with
  | zero => exact nns h'
  | succ k =>
    refine bndE h' fun c ht h' => ?_
    refine ((sound G k env).tr st'.all t c A _ s' ht hA f'.all).use fun c' s'' k'' hc => ?_
    subst hc
    have f'' := f'.keep (kp_heap k'')
    have kb'' : KBut Mt s s'' := kb_trans kb (kb_of k'')
    have ex'' := exs_trans ex (exs_of k'')
    cases c' with
    | false =>
      have h' : some (none, st') = some r := h'
      cases h'
      exact wpAny_execs_nil ⟨_, rfl, spost_next kb'' ex'' f'' hM⟩
    | true =>
      refine bndE h' fun pat0 hx h' => ?_; obtain ⟨ro, st2⟩ := pat0
      refine wpAny_mono (ih k (by omega) env stor B₀ Mt' F' st' A s'' b _ hs hA f'' hx) (fun fl s3 p => ?_) fun _ _ e => e.elim
      have p' := p.after kb'' ex'' hM
      cases ro with
      | none =>
        obtain ⟨k3, ex3, hf, Mt3, F3, f3, hM3⟩ := p'
        subst hf
        exact ⟨k, Nat.lt_succ_self k, by omega, st2, Mt3, F3, f3, h', k3, ex3, hM3⟩
      | some d =>
        obtain ⟨k3, ex3, v, rfl, rv⟩ := id p'
        cases h'
        exact ⟨_, rfl, p'⟩

/-- banned places changed, their bans dropped -/
theorem FS.dropB {h h' : Heap} {B₁ Y : Addr → Prop} (f : FS w h₀ env stor B₁ Mt F st h) (hk : ∀ b o, ¬ Y b → h.get? b = some o → h'.get? b = some o) (hY : ∀ b, Y b → B₁ b) (hB : ∀ b, B₀ b → B₁ b ∧ ¬ Y b)
    (hc : ∀ x c, env.cells.lookup x = some c → ¬ Y c) : FS w h₀ env stor B₀ Mt F st h' := by
  have nY : ∀ b, Mt b → ¬ Y b := fun b hb q => f.fr.dj b (hY b q) hb
  have nF : ∀ b, Fam env stor b → ¬ Y b := fun b hb => nY b (f.fr.fam b hb)
  have up : ∀ b o, ¬ (B₁ b ∨ Mt b) → h.get? b = some o → h'.get? b = some o ∧ ¬ (B₀ b ∨ Mt b) := fun b o nb e => ⟨hk b o (fun q => nb (.inl (hY b q))) e, fun q => nb (q.imp (fun q => (hB b q).1) id)⟩
  have uv : ∀ x v, Var env h x v → Var env h' x v := fun x v hv => by
    rcases hv with ⟨k, ml, n, e⟩ | ⟨k, c, lc, e⟩
    · exact .inl ⟨k, ml, n.at' fun o e => hk _ o (nF _ (.inl rfl)) e, e⟩
    · obtain ⟨o, ho, hd⟩ := id e
      exact .inr ⟨k, c, lc, ⟨o, hk c o (hc x c lc) ho, hd⟩⟩
  exact {
    fr := {
      fe := {
        kind := f.fr.fe.kind
        gl := f.fr.fe.gl
        bl := f.fr.fe.bl
        nm := f.fr.fe.nm
        base := fun b o e => hk b o (fun q => by rw [f.fr.fe.lo b (.inl (hY b q))] at e; cases e) (f.fr.fe.base b o e)
        hi := fun b hb => by
          rcases hb with hb | hb
          · obtain ⟨o, ho⟩ := f.fr.fe.hi b (.inl (hB b hb).1); exact ⟨o, hk b o (hB b hb).2 ho⟩
          · obtain ⟨o, ho⟩ := f.fr.fe.hi b (.inr hb); exact ⟨o, hk b o (nY b hb) ho⟩
        lo := fun b hb => f.fr.fe.lo b (hb.imp (fun q => (hB b q).1) id)
        var := fun x d e => let ⟨v, h1, h2⟩ := f.fr.fe.var x d e; ⟨v, uv x v h1, RV.step up d v h2⟩
        cell := f.fr.fe.cell
        cex := fun x c e => let ⟨o, ho⟩ := f.fr.fe.cex x c e; ⟨o, hk c o (hc x c e) ho⟩ }
      dj := fun b hb => f.fr.dj b (hB b hb).1
      loc := let ⟨ml, n⟩ := f.fr.loc; ⟨ml, n.at' fun o e => hk _ o (nF _ (.inl rfl)) e⟩
      mtl := f.fr.mtl
      cel := fun x hs hx => by
        obtain ⟨c, v, h1, h2, h3⟩ := f.fr.cel x hs hx
        obtain ⟨o, ho, hd⟩ := id h2
        exact ⟨c, v, h1, ⟨o, hk c o (hc x c h1) ho, hd⟩, h3⟩ }
    own := fun x ld e => by
      obtain ⟨h1, h2, h3⟩ := f.own x ld e
      refine ⟨uv x _ h1, h2.step (fun b o hb e => hk b o (fun q => ?_) e) (fun b o nb e => ?_), h3⟩
      · rcases hb with hb | hb
        · exact nY b (h3 b hb).1 q
        · exact hb (.inl (hY b q))
      · exact fun q => nb (q.imp (fun q => (hB b q).1) id)
    dis := f.dis
    cno := f.cno }

/-- a for's end -/
inductive LPost (w : World) (h₀ : Heap) (env : Env) (stor : Str → Bool) (B₀ Mt : Addr → Prop) (wr : List Addr) (s : Shared) (r : Option D × St) (f : Flow) (s' : Shared) : Prop where
  | mk : KBut (fun b => Mt b ∨ b ∈ wr) s s' → (∀ b, b ∉ wr → (∃ o, s.heap.get? b = some o) → ∃ o, s'.heap.get? b = some o) → (match r.1 with
    | none => NextP w h₀ env stor B₀ Mt s r.2 f s'
    | some d => ∃ v, f = .ret v ∧ RV w s'.heap B₀ d v) → LPost w h₀ env stor B₀ Mt wr s r f s'
/-- a for's state, before a turn -/
inductive FInv (w : World) (h₀ : Heap) (env : Env) (stor : Str → Bool) (B₁ Mt : Addr → Prop) (wr : List Addr) (s : Shared) (C : Cx) (n : Nat) (t : Expr) (b : List Stmt) (l : List D) (Stt : Nat → Heap → Prop) (r : Option D × St) (k : Nat) (s' : Shared) : Prop where
  | mk : k ≤ n → ∀ (i : Nat) (st' : St) (Mt' : Addr → Prop) (F' : Str → Addr × List Addr), i ≤ l.length → FS w h₀ env stor B₁ Mt' F' st' s'.heap → Stt i s'.heap → exf C k env.scope st' t b (l.drop i) = some r → KBut (fun b => Mt b ∨ b ∈ wr) s s' → Exs s s' →
    (∀ b, Mt' b → Mt b ∨ s.heap.get? b = none) → FInv w h₀ env stor B₁ Mt wr s C n t b l Stt r k s'

theorem SPost.unban {B₁ : Addr → Prop} {r : Option D × St} {fl : Flow} {s' : Shared} (hB : ∀ b, B₀ b → B₁ b) (q : SPost w h₀ env stor B₁ Mt s r fl s') : SPost w h₀ env stor B₀ Mt s r fl s' := by
  obtain ⟨ro, st1⟩ := r
  obtain ⟨k, ex, p⟩ := q
  cases ro with
  | none =>
    obtain ⟨hf, M2, F2, fs, hM2⟩ := p
    exact ⟨k, ex, hf, M2, F2, fs.unban hB, hM2⟩
  | some d =>
    obtain ⟨v, hf, rv⟩ := p
    exact ⟨k, ex, v, hf, rv.less hB⟩

theorem LPost.of {wr : List Addr} {r : Option D × St} {fl : Flow} {s' : Shared} (k : KBut (fun b => Mt b ∨ b ∈ wr) s s') (ex : Exs s s') {Mt' : Addr → Prop} (hM : ∀ b, Mt' b → Mt b ∨ s.heap.get? b = none) {s'' : Shared} (q : SPost w h₀ env stor B₀ Mt' s' r fl s'') :
    KBut (fun b => Mt b ∨ b ∈ wr) s s'' ∧ Exs s s'' ∧ LPost w h₀ env stor B₀ Mt wr s r fl s'' := by
  obtain ⟨ro, st1⟩ := r
  obtain ⟨k', ex', p⟩ := q
  have kk : KBut (fun b => Mt b ∨ b ∈ wr) s s'' := by
    obtain ⟨h1, t1, rfl, k1⟩ := k
    obtain ⟨h2, t2, rfl, k2⟩ := k'
    refine ⟨h2, t2, rfl, fun b o nb e => k2 b o (fun q => ?_) (k1 b o nb e)⟩
    rcases hM b q with h | h
    · exact nb (.inl h)
    · rw [e] at h; cases h
  refine ⟨kk, exs_trans ex ex', kk, fun b _ hb => exs_trans ex ex' b hb, ?_⟩
  cases ro with
  | none =>
    obtain ⟨hf, M2, F2, fs, hM2⟩ := p
    refine ⟨hf, M2, F2, fs, fun b hb => ?_⟩
    rcases hM2 b hb with h | h
    · exact hM b h
    · refine .inr ?_
      cases e : s.heap.get? b with
      | none => rfl
      | some o => obtain ⟨o', ho'⟩ := ex b ⟨o, e⟩; rw [ho'] at h; cases h
  | some d => exact p

theorem for_loop (hs : ∀ x, stor x = true) (hA : AOk A N) (ih : ∀ k, k < n → ExsOk prog w h₀ N C k) {t : Expr} {b : List Stmt} {r : Option D × St} {B₁ Ban : Addr → Prop} {I : Addr} {wr : List Addr} {l : List D} {Stt : Nat → Heap → Prop}
    (src : Src prog w A Ban I wr l Stt) (ht : targetOk env.scope t = true) (hst : Stt 0 s.heap) (f : FS w h₀ env stor B₁ Mt F st s.heap) (hB : ∀ b, B₀ b → B₁ b ∧ b ∉ wr) (hB₁ : ∀ b, B₁ b → Ban b) (hMt : ∀ b, Mt b ∨ s.heap.get? b = none → Ban b) (hwr : ∀ b ∈ wr, B₁ b) (hcw : ∀ x c, env.cells.lookup x = some c → c ∉ wr)
    (h : exf C n env.scope st t b l = some r) :
    codeAny (model prog w) A (.forLoop t (.ref I) b [] env) (fun res s' => ∃ fl, res = .ok fl ∧ LPost w h₀ env stor B₀ Mt wr s r fl s') s := by
  refine codeAny_forLoop_any (FInv w h₀ env stor B₁ Mt wr s C n t b l Stt r) ?_ n
    ⟨Nat.le_refl _, 0, st, Mt, F, Nat.zero_le _, f, hst, h, kb_refl _ _, fun _ h => h, fun b hb => .inl hb⟩
  rintro k s' ⟨hk, i, st', Mt', F', hi, f', hS, h', kb, ex, hM⟩
  cases k with
  | zero => exact nns h'
  | succ k =>
    -- the iterator's places changed
    have touch : ∀ s₂, KBut (· ∈ wr) s' s₂ → (∀ b ∈ wr, ∃ o, s₂.heap.get? b = some o) → FS w h₀ env stor B₁ Mt' F' st' s₂.heap := fun s₂ k₂ e₂ =>
      f'.touchB (Y := (· ∈ wr)) (fun b o nb e => kb_heap k₂ b o nb e) (fun b hb => ⟨hwr b hb, e₂ b hb⟩) hcw
    have exw : ∀ s₂, KBut (· ∈ wr) s' s₂ → (∀ b ∈ wr, ∃ o, s₂.heap.get? b = some o) → Exs s' s₂ := by
      rintro s₂ k₂ e₂ b ⟨o, ho⟩
      by_cases hb : b ∈ wr
      · exact e₂ b hb
      · exact ⟨o, kb_heap k₂ b o hb ho⟩
    cases hd : l.drop i with
    | nil =>
      rw [hd] at h'
      have h' : some (none, st') = some r := h'
      cases h'
      have hil : i = l.length := by
        have := List.drop_eq_nil_iff.mp hd; omega
      subst hil
      refine src.done s' _ _ hS fun s₁ k₁ => wpAny_execs_nil ⟨_, rfl, kb_trans kb (kb_mono k₁ fun c hc => .inr hc), fun c hc hx => ?_, rfl, Mt', F', f'.dropB (Y := (· ∈ wr)) (fun c o nc e => kb_heap k₁ c o nc e) hwr hB hcw, hM⟩
      obtain ⟨o, ho⟩ := ex c hx
      exact ⟨o, kb_heap k₁ c o hc ho⟩
    | cons d rest =>
      rw [hd] at h'
      refine bndE h' fun st₁ hb h' => ?_
      refine bndE h' fun pat0 hx h' => ?_; obtain ⟨ro, st2⟩ := pat0
      have hli : l[i]? = some d := by
        have := congrArg (·[0]?) hd
        simpa using this
      have hrest : rest = l.drop (i + 1) := by
        have := congrArg List.tail hd
        simpa using this.symm
      have htg : tgtOk t d = true := (ifs hb).1
      refine src.item i d t s' _ _ htg hli hS fun v s₁ hgo => ?_
      refine hgo _ _ fun s₂ k₂ hS₂ rv => ?_
      have e₂ := src.ex (i + 1) _ hS₂
      have f₂ := touch s₂ k₂ e₂
      have hBanM : ∀ c, Mt' c → Ban c := fun c hc => hMt c (hM c hc)
      refine targetS_ok hs hA.hd f₂ hb ht (rv.less fun c hc => ?_) fun s₃ k₃ ex₃ f₃ => ?_
      · exact ⟨hc.elim (hB₁ c) (hBanM c), f'.fr.fe.hi c hc⟩
      have kb₃ : KBut (fun b => Mt b ∨ b ∈ wr) s s₃ := by
        have k12 : KBut (fun b => Mt b ∨ b ∈ wr) s s₂ := kb_trans kb (kb_mono k₂ fun c hc => .inr hc)
        obtain ⟨h1, t1, rfl, q1⟩ := k12
        obtain ⟨h2, t2, rfl, q2⟩ := k₃
        refine ⟨h2, t2, rfl, fun c o nc e => q2 c o (fun q => ?_) (q1 c o nc e)⟩
        rcases hM c (f'.fr.fam c q) with h | h
        · exact nc (.inl h)
        · rw [e] at h; cases h
      have ex₃' : Exs s s₃ := exs_trans ex (exs_trans (exw s₂ k₂ e₂) ex₃)
      have hS₃ : Stt (i + 1) s₃.heap := src.frame (i + 1) _ _ (Fam env stor) hS₂ (fun c hc => ⟨hBanM c (f'.fr.fam c hc), fun q => f'.fr.dj c (hwr c q) (f'.fr.fam c hc)⟩) (fun c o nc e => kb_heap k₃ c o nc e)
      have next : ∀ r', exs C k env.scope st₁ b = some r' → wpAny (model prog w) A (execs b env) (fun fl s₄ => SPost w h₀ env stor B₁ Mt' s₃ r' fl s₄) (fun _ _ => False) s₃ := fun r' hx => ih k (by omega) env stor B₁ Mt' F' st₁ A s₃ b r' hs hA f₃ hx
      cases ro with
      | none =>
        refine wpAny_mono (next _ hx) (fun fl s₄ p => ?_) fun _ _ e => e.elim
        obtain ⟨kb4, ex4, p'⟩ := LPost.of kb₃ ex₃' hM p
        obtain ⟨k4, _, _⟩ := p
        obtain ⟨_, _, hf, Mt4, F4, f4, hM4⟩ := p'
        subst hf
        refine ⟨k, Nat.lt_succ_self k, by omega, i + 1, st2, Mt4, F4, ?_, f4, ?_, by rw [← hrest]; exact h', kb4, ex4, hM4⟩
        · exact (List.getElem?_eq_some_iff.mp hli).1
        · exact src.frame (i + 1) _ _ Mt' hS₃ (fun c hc => ⟨hBanM c hc, fun q => f'.fr.dj c (hwr c q) hc⟩) (fun c o nc e => kb_heap k4 c o nc e)
      | some d' =>
        refine wpAny_mono (next _ hx) (fun fl s₄ p => ?_) fun _ _ e => e.elim
        obtain ⟨kb4, ex4, p'⟩ := LPost.of kb₃ ex₃' hM (p.unban fun b hb => (hB b hb).1)
        obtain ⟨_, _, v', rfl, rv'⟩ := id p'
        cases h'
        exact ⟨_, rfl, p'⟩
end

end Mine

end

section
open PySem PySem.W PyProof.Rows PySem.SeqAt
set_option Elab.async false
namespace Mine

section
variable {prog : Program} {w : World} {A : Around} {s : Shared} {h₀ : Heap} {env : Env} {stor : Str → Bool} {B₀ Mt : Addr → Prop} {F : Str → Addr × List Addr} {st st' : St} {C : Cx} {n N : Nat} {mg mb : Str → Option Value}

theorem for_stmt (G : GW prog w C N h₀ mg mb) (hs : ∀ x, stor x = true) (hA : AOk A N) (ih : ∀ k, k < n → ExsOk prog w h₀ N C k) {t i : Expr} {b : List Stmt} {pos : Pos} {r : Option D × St} {l : List D} (f : FS w h₀ env stor B₀ Mt F st s.heap) (ht : targetOk env.scope t = true)
    (hi : itE C n env.scope st.m i = some l) (h : exf C n env.scope st t b l = some r) :
    wpAny (model prog w) A (exec (.For t i b [] pos) env) (SPost w h₀ env stor B₀ Mt s r) (fun _ _ => False) s := by
  obtain ⟨hns, hit⟩ := (sound G n env).it st.m i l A _ s hi hA f.fr.fe
  refine wpAny_For (hit _ _ ?_) (folded_plain hns env)
  rintro it s₁ ⟨I, wr, Stt, rfl, k₁, hwr, hsrc⟩
  obtain ⟨src, hSt⟩ := hsrc (fun b => B₀ b ∨ Mt b ∨ b ∈ wr ∨ s₁.heap.get? b = none) (fun b hb => .inr (.inr (.inl hb))) (fun b hb => by
    rcases hb with hb | hb | hb | hb
    · exact .inl (.inl hb)
    · exact .inl (.inr hb)
    · exact .inr (.inl hb)
    · exact .inr (.inr hb))
  have f₁ : FS w h₀ env stor (fun b => B₀ b ∨ b ∈ wr) Mt F st s₁.heap := f.ban (X := (· ∈ wr)) (kp_heap k₁) hwr
  have hnw : ∀ b, (∃ o, s.heap.get? b = some o) → b ∉ wr := fun b hb q => by
    obtain ⟨o, ho⟩ := hb; rw [(hwr b q).1] at ho; cases ho
  refine codeAny_mono (for_loop (B₀ := B₀) hs hA ih src ht hSt f₁ (fun b hb => ⟨.inl hb, hnw b (f.fr.fe.hi b (.inl hb))⟩) (fun b hb => hb.elim .inl fun q => .inr (.inr (.inl q))) (fun b hb => hb.elim (fun q => .inr (.inl q)) fun q => .inr (.inr (.inr q))) (fun b hb => .inr hb)
    (fun x c hc q => hnw c (f.fr.fe.cex x c hc) q) h) fun res s' hp => ?_
  obtain ⟨fl, rfl, kb, ex, p⟩ := hp
  obtain ⟨ro, st1⟩ := r
  have kk : KBut Mt s s' := kb_new k₁ kb fun b hb => hb.imp id fun q => (hwr b q).1
  have ee : Exs s s' := fun b hb => ex b (hnw b hb) (exs_of k₁ b hb)
  cases ro with
  | none =>
    obtain ⟨hf, M2, F2, fs, hM2⟩ := p
    exact ⟨kk, ee, hf, M2, F2, fs, fun b hb => (hM2 b hb).imp id fun q => new_none k₁ q⟩
  | some d => exact ⟨kk, ee, p⟩

/-- a statement behind the own lists' giving up -/
theorem freeze_post (f : FS w h₀ env stor B₀ Mt F st s.heap) {r : Option D × St} {fl : Flow} {s' : Shared} (p : SPost w h₀ env stor B₀ (Fam env stor) s r fl s') : SPost w h₀ env stor B₀ Mt s r fl s' :=
  p.after (kb_refl _ _) (fun _ h => h) fun b hb => .inl (f.fr.fam b hb)

theorem exAT_ok (G : GW prog w C N h₀ mg mb) (hs : ∀ x, stor x = true) (hA : AOk A N) (f : FS w h₀ env stor B₀ Mt F st s.heap) {hn : Hint} {ts : List Expr} {k : Nat} {p : Pos} {e : Expr} {pos : Pos} {r : Option D × St} (h : exAT C n env.scope st hn ts k p e = some r) :
    wpAny (model prog w) A (exec (.Assign [.Tuple ts k p] e pos) env) (SPost w h₀ env stor B₀ Mt s r) (fun _ _ => False) s := by
  refine ifsE h fun h0 h => ?_
  refine bndE h fun d he h => ?_
  refine mpdE h fun st' hb eqv => ?_
  subst eqv
  exact tuple_stmt G hA hs f h0.1 h0.2.1 h0.2.2 he hb
theorem exAS_ok (G : GW prog w C N h₀ mg mb) (hA : AOk A N) (f : FS w h₀ env stor B₀ Mt F st s.heap) {hn : Hint} {i e : Expr} {x : Str} {px p : Pos} {pos : Pos} {r : Option D × St} (h : exAS1 C n env.scope st hn i e x = some r) :
    wpAny (model prog w) A (exec (.Assign [.Subscript (.Name x px) i p] e pos) env) (SPost w h₀ env stor B₀ Mt s r) (fun _ _ => False) s := by
  refine bndE h fun l hl h => ?_
  refine bndE h fun j hj h => ?_
  refine bndE h fun d he h => ?_
  refine mpdE h fun l' hl' eqv => ?_
  subst eqv
  refine bndE hl fun od ho hl => ?_
  obtain rfl := asOne_inv hl
  refine bndE hj fun dj hi hj => ?_
  obtain rfl := asInt_inv hj
  exact sub_stmt G hA f ho hi he hl'
theorem exA_ok (G : GW prog w C N h₀ mg mb) (hs : ∀ x, stor x = true) (hA : AOk A N) (f : FS w h₀ env stor B₀ Mt F st s.heap) {hn : Hint} {t e : Expr} {pos : Pos} {r : Option D × St} (h : exA C n env.scope st hn t e = some r) :
    wpAny (model prog w) A (exec (.Assign [t] e pos) env) (SPost w h₀ env stor B₀ Mt s r) (fun _ _ => False) s := by
  cases t
  case Name x p =>
    refine ifsE h fun hx h => ?_
    rcases ifp h with ⟨_, h⟩ | ⟨_, h⟩
    · refine mpdE h fun l he eqv => ?_; subst eqv; exact own_stmt G hA hs f hx he
    rcases ifp h with ⟨_, h⟩ | ⟨_, h⟩
    · refine mpdE h fun l he eqv => ?_; subst eqv; exact own2_stmt G hA hs f hx he
    · refine mpdE h fun d he eqv => ?_; subst eqv; exact set_stmt G hA hs f hx he
  case Tuple ts k p => exact exAT_ok (hn := hn) G hs hA f h
  case Subscript o i p =>
    refine bndE h fun x hx h => ?_
    obtain ⟨px, rfl⟩ := asName_inv hx
    exact exAS_ok G hA f h
  all_goals exact nns h

theorem exS_ok (G : GW prog w C N h₀ mg mb) (hs : ∀ x, stor x = true) (hA : AOk A N) (f : FS w h₀ env stor B₀ Mt F st s.heap) {hn : Hint} {ts : List Expr} {e : Expr} {pos : Pos} {r : Option D × St} (h : exS C n env.scope st hn ts e = some r) :
    wpAny (model prog w) A (exec (.Assign ts e pos) env) (SPost w h₀ env stor B₀ Mt s r) (fun _ _ => False) s := by
  cases ts with
  | nil => exact nns h
  | cons t ts => cases ts with
    | nil =>
      have h : exA C n env.scope (if hn = .freeze then st.frozen else st) hn t e = some r := h
      by_cases hfz : hn = .freeze
      · rw [if_pos hfz] at h
        exact wpAny_mono (exA_ok (n := n) G hs hA f.freeze h) (fun _ _ p => freeze_post f p) fun _ _ e => e
      · rw [if_neg hfz] at h
        exact exA_ok (n := n) G hs hA f h
    | cons t' ts =>
      refine ifsE h fun h0 h => ?_
      refine bndE h fun x hx h => ?_
      refine bndE h fun y hy h => ?_
      refine ifsE h fun pat0 h => ?_; obtain ⟨h1, h2, _⟩ := pat0
      refine mpdE h fun d he eqv => ?_; subst eqv
      obtain rfl := emp h0
      obtain ⟨px, rfl⟩ := asName_inv hx
      obtain ⟨py, rfl⟩ := asName_inv hy
      exact two_stmt G hA hs f h1 h2 he

theorem exU_ok (G : GW prog w C N h₀ mg mb) (hs : ∀ x, stor x = true) (hA : AOk A N) (f : FS w h₀ env stor B₀ Mt F st s.heap) {t e : Expr} {op : Operator} {pos : Pos} {r : Option D × St} (h : exU C n env.scope st t op e = some r) :
    wpAny (model prog w) A (exec (.AugAssign t op e pos) env) (SPost w h₀ env stor B₀ Mt s r) (fun _ _ => False) s := by
  refine bndE h fun x hn h1 => ?_
  clear h
  obtain ⟨px, rfl⟩ := asName_inv hn
  refine ifsE h1 fun hx h => ?_
  refine bndE h fun a ha h => ?_
  refine bndE h fun b hb h => ?_
  refine bndE ha fun da ha hda => ?_
  refine bndE hb fun db hb hdb => ?_
  obtain rfl := asInt_inv hda
  obtain rfl := asInt_inv hdb
  rcases ifp h with ⟨ho, h'⟩ | ⟨_, h'⟩
  · cases h'; exact aug_stmt G hA hs f hx ha hb (.inl ⟨ho, rfl⟩)
  · refine ifsE h' fun ho h' => ?_
    cases h'; exact aug_stmt G hA hs f hx ha hb (.inr ⟨ho, rfl⟩)

theorem exN_ok (G : GW prog w C N h₀ mg mb) (hA : AOk A N) (f : FS w h₀ env stor B₀ Mt F st s.heap) {hn : Hint} {e : Expr} {x m : Str} {px apos cpos pos : Pos} {r : Option D × St} (hl : (apos.endLine == cpos.line) = true) (h : exN C n env.scope st hn x m e = some r) :
    wpAny (model prog w) A (exec (.Expr (.Call (.Attribute (.Name x px) m apos) [e] [] cpos) pos) env) (SPost w h₀ env stor B₀ Mt s r) (fun _ _ => False) s := by
  refine bndE h fun od ho h => ?_
  cases od with
  | one l =>
    rcases ifp h with ⟨hm, h⟩ | ⟨_, h⟩
    · refine bndE h fun d he h => ?_
      refine ifsE h fun hc h => ?_
      cases h
      cases hm
      exact append_stmt G hA f ho he hl hc
    · refine ifsE h fun hm h => ?_
      refine bndE h fun l' he h => ?_
      refine bndE he fun d he hd => ?_
      refine ifsE h fun hc h => ?_
      cases h
      obtain rfl := asList_inv hd
      cases hm
      exact extend_stmt G hA f ho he hl hc
  | two l =>
    refine ifsE h fun hm h => ?_
    refine bndE h fun d he h => ?_
    refine ifsE h fun hc h => ?_
    cases h
    cases hm
    exact append2_stmt G hA f ho he hl hc.1 hc.2
theorem exR_ok (G : GW prog w C N h₀ mg mb) (hA : AOk A N) (f : FS w h₀ env stor B₀ Mt F st s.heap) {hn : Hint} {i e : Expr} {x m : Str} {px pi apos cpos pos : Pos} {r : Option D × St} (hl : (apos.endLine == cpos.line) = true) (h : exR C n env.scope st hn x i m e = some r) :
    wpAny (model prog w) A (exec (.Expr (.Call (.Attribute (.Subscript (.Name x px) i pi) m apos) [e] [] cpos) pos) env) (SPost w h₀ env stor B₀ Mt s r) (fun _ _ => False) s := by
  refine bndE h fun l ho h => ?_
  refine bndE h fun j hi h => ?_
  refine bndE h fun d he h => ?_
  refine ifsE h fun hm h => ?_
  refine bndE h fun k hj h => ?_
  refine bndE h fun l' hk h => ?_
  refine ifsE h fun hc h => ?_
  cases h
  cases hm
  refine bndE ho fun od ho hod => ?_
  refine bndE hi fun dj hi hdj => ?_
  obtain rfl := asTwo_inv hod
  obtain rfl := asInt_inv hdj
  exact row_stmt G hA f ho hi he hl hj hk hc.1 hc.2
theorem exE_ok (G : GW prog w C N h₀ mg mb) (hA : AOk A N) (f : FS w h₀ env stor B₀ Mt F st s.heap) {hn : Hint} {e : Expr} {pos : Pos} {r : Option D × St} (h : exE C n env.scope st hn e = some r) :
    wpAny (model prog w) A (exec (.Expr e pos) env) (SPost w h₀ env stor B₀ Mt s r) (fun _ _ => False) s := by
  refine bndE h fun q hq h1 => ?_
  refine bndE h1 fun a ha h2 => ?_
  refine bndE h2 fun e' hs1 h3 => ?_
  refine ifsE h3 fun hp h4 => ?_
  clear h h1 h2 h3
  obtain rfl := asCall_inv hq
  obtain ⟨q, args, kws, cpos⟩ := q
  obtain rfl := asAttr_inv ha
  obtain ⟨o, m, apos⟩ := a
  obtain rfl := sole_inv hs1
  obtain ⟨hk, hl⟩ := Bool.and_eq_true_iff.mp hp
  obtain rfl := emp hk
  clear hq ha hs1 hp hk
  have h : exE2 C n env.scope st hn (o, m, apos) e' = some r := h4
  unfold exE2 at h
  cases hx : asName o with
  | some x =>
    dsimp only at h
    rw [hx] at h
    obtain ⟨px, rfl⟩ := asName_inv hx
    exact exN_ok G hA f hl h
  | none =>
    dsimp only at h
    rw [hx] at h
    refine bndE h fun b hb h => ?_
    refine bndE h fun x hbx h => ?_
    obtain ⟨pi, rfl⟩ := asSub_inv hb
    obtain ⟨b, i⟩ := b
    obtain ⟨px, rfl⟩ := asName_inv hbx
    exact exR_ok G hA f hl h

theorem ex_step (G : GW prog w C N h₀ mg mb) (ih : ∀ k, k < n + 1 → ExsOk prog w h₀ N C k) : ExOk prog w h₀ N C (n + 1) := by
  intro env stor B₀ Mt F st A s c r hs hA f h
  have ihn : ∀ k, k < n → ExsOk prog w h₀ N C k := fun k hk => ih k (Nat.lt_succ_of_lt hk)
  cases c
  case Assign ts e pos => exact exS_ok G hs hA f h
  case AugAssign t op e pos => exact exU_ok G hs hA f h
  case If t b o pos =>
    refine bndE h fun c ht h => ?_
    refine wpAny_If (((sound G n env).tr st.all t c A _ s ht hA f.all).use fun c' s₁ k₁ hc => ?_)
    subst hc
    have fin : ∀ l, exs C n env.scope st l = some r → wpAny (model prog w) A (execs l env) (SPost w h₀ env stor B₀ Mt s r) (fun _ _ => False) s₁ := fun l h =>
      wpAny_mono (ih n (Nat.lt_succ_self n) env stor B₀ Mt F st A s₁ l r hs hA (f.keep (kp_heap k₁)) h) (fun fl s₂ p => p.after (kb_of k₁) (exs_of k₁) fun b hb => .inl hb) fun _ _ e => e
    cases c' with
    | true => exact fin b h
    | false => exact fin o h
  case While t b els pos =>
    refine ifsE h fun hl h1 => ?_
    obtain rfl := emp hl
    refine wpAny_While (codeAny_mono (while_ok G hs hA ihn f h1) fun res s' hp => ?_)
    obtain ⟨fl, rfl, p⟩ := hp
    exact p
  case For t i b els pos =>
    refine ifsE h fun hl h1 => ?_
    rw [Bool.and_eq_true] at hl
    obtain ⟨hl, ht⟩ := hl
    refine bndE h1 fun l hi h2 => ?_
    clear h h1
    obtain rfl := emp hl
    have h := h2
    clear h2
    by_cases hfz : C.hint pos.line = .freeze
    · rw [if_pos hfz] at hi h
      exact wpAny_mono (for_stmt G hs hA ihn f.freeze ht hi h) (fun _ _ p => freeze_post f p) fun _ _ e => e
    · rw [if_neg hfz] at hi h
      exact for_stmt G hs hA ihn f ht hi h
  case Return oe pos =>
    refine bndE h fun e he0 h1 => ?_
    refine mpdE h1 fun d he eqv => ?_; subst eqv
    clear h h1
    subst he0
    refine wpAny_Return_some (((sound G n env).ev st.all e d A _ s he hA f.all).use fun v s₁ k₁ p => ?_)
    exact ⟨kb_of k₁, exs_of k₁, v, rfl, p.1⟩
  case Expr e pos => exact exE_ok G hA f h
  all_goals exact nns h

/-- the statements' soundness -/
theorem soundS (G : GW prog w C N h₀ mg mb) : ∀ n, ExOk prog w h₀ N C n ∧ ∀ k, k ≤ n → ExsOk prog w h₀ N C k
  | 0 => by
    refine ⟨fun env stor B₀ Mt F st A s c r hs hA f h => nns h, fun k hk => ?_⟩
    have : k = 0 := by omega
    subst this
    exact fun env stor B₀ Mt F st A s c r hs hA f h => nns h
  | n + 1 => by
    obtain ⟨h1, h2⟩ := soundS G n
    have hx : ∀ k, k ≤ n + 1 → ExsOk prog w h₀ N C k := fun k hk => by
      rcases Nat.lt_or_ge n k with h | h
      · have : k = n + 1 := by omega
        subst this
        exact exs_step h1 (h2 n (Nat.le_refl n))
      · exact h2 k h
    exact ⟨ex_step G fun k hk => h2 k (by omega), hx⟩
end

end Mine

end

section
open PySem PySem.W PyProof.Rows PySem.SeqAt
set_option Elab.async false
namespace Mine

theorem bindL_out {k : Str → Option NameKind} {x : Str} : ∀ (xs : List Str) (vs : List Value) (ml : Str → Option Value), x ∉ xs → bindL k (xs.zip vs) ml x = ml x
  | [], _, _, _ => rfl
  | _ :: _, [], _, _ => rfl
  | y :: xs, v :: vs, ml, h => by
    have hy : x ≠ y := fun e => h (e ▸ List.mem_cons_self)
    have hx : x ∉ xs := fun e => h (List.mem_cons_of_mem _ e)
    show bindL k (xs.zip vs) _ x = _
    rw [bindL_out xs vs _ hx]
    split
    · simp [hy]
    · rfl
theorem bindC_out {k : Str → Option NameKind} {x : Str} : ∀ (xs : List Str) (vs : List Value) (ml : Str → Option Value), x ∉ xs → bindC k (xs.zip vs) ml x = ml x
  | [], _, _, _ => rfl
  | _ :: _, [], _, _ => rfl
  | y :: xs, v :: vs, ml, h => by
    have hy : x ≠ y := fun e => h (e ▸ List.mem_cons_self)
    have hx : x ∉ xs := fun e => h (List.mem_cons_of_mem _ e)
    show bindC k (xs.zip vs) _ x = _
    rw [bindC_out xs vs _ hx]
    split
    · rfl
    · simp [hy]

theorem bind_vals {w : World} {h : Heap} {B : Addr → Prop} {k : Str → Option NameKind} : ∀ (xs : List Str) (args : List D) (vs : List Value) (m : PE), xs.Nodup → bindP xs args = some m → RVs w h B args vs → vs.length = xs.length ∧
    ∀ x d, m x = some d → x ∈ xs ∧ ∃ v, RV w h B d v ∧ ∀ ml cm, (k x = some .local → bindL k (xs.zip vs) ml x = some v) ∧ (k x ≠ some .local → bindC k (xs.zip vs) cm x = some v)
  | [], [], vs, m, _, e, r => by
    simp only [RVs] at r
    subst r
    cases e
    exact ⟨rfl, fun x d h => by cases h⟩
  | x :: xs, d :: ds, vs, m, nd, e, r => by
    obtain ⟨v, vs', rfl, r1, r2⟩ := r.uncons
    obtain ⟨n1, n2⟩ := List.nodup_cons.mp nd
    unfold bindP at e
    cases hm : bindP xs ds with
    | none => rw [hm] at e; cases e
    | some m' =>
      rw [hm] at e; cases e
      obtain ⟨hl, ih⟩ := bind_vals (k := k) xs ds vs' m' n2 hm r2
      refine ⟨by simp [hl], fun y d' hy => ?_⟩
      replace hy : (if y = x then some d else m' y) = some d' := hy
      split at hy
      · rename_i q; subst q; obtain rfl := Option.some.inj hy
        refine ⟨List.mem_cons_self, v, r1, fun ml cm => ⟨fun hk => ?_, fun hk => ?_⟩⟩
        · show bindL k (xs.zip vs') _ y = _
          rw [bindL_out xs vs' _ n1, if_pos hk]; simp
        · show bindC k (xs.zip vs') _ y = _
          rw [bindC_out xs vs' _ n1, if_neg hk]; simp
      · obtain ⟨h1, v', h2, h3⟩ := ih y d' hy
        exact ⟨List.mem_cons_of_mem _ h1, v', h2, fun ml cm => ⟨fun hk => (h3 _ cm).1 hk, fun hk => (h3 ml _).2 hk⟩⟩
  | [], _ :: _, _, _, _, e, _ => by cases e
  | _ :: _, [], _, _, _, e, _ => by cases e

noncomputable def defOk (sc : Scope) (xs : List Str) : Bool :=
  sc.kind == .function && !sc.isCoroutine && !sc.isGenerator && nmOk sc && sc.names.all (fun p => p.2 != .free) && decide xs.Nodup && xs.all (fun x => kd sc x == some .local || kd sc x == some .cell)

theorem kd_mem {sc : Scope} {x : Str} {k : NameKind} (h : kd sc x = some k) : (x, k) ∈ sc.names := mem_of_lookup h

section
variable {prog : Program} {w : World} {h₀ : Heap} {C : Cx} {n N : Nat} {mg mb : Str → Option Value}

theorem soundF_of (G : GW prog w C N h₀ mg mb) (hlim : h₀.NoLimit) {fa : Addr} {o : Obj} {fd : FuncData} {body : List Stmt} {xs : List Str} (ho : h₀.get? fa = some o) (hd : o.data = .func fd) (hbody : fd.body = .stmts body)
    (hcd : h₀.CodeRec fd.code fd.qualname) (hgl : fd.globals = mainGlobals) (hbl : fd.builtins = builtinsNs) (hcl : fd.closure = []) (hok : defOk fd.scope xs = true)
    (hbind : ∀ vs : List Value, vs.length = xs.length → bindArgs fd ⟨vs, []⟩ = pure (xs.zip vs)) : SoundF prog w h₀ (N + 1) fa (callF C n xs fd.scope body) := by
  intro A s B args vs d hA hb hi hlo r hF
  simp only [defOk, Bool.and_eq_true, beq_iff_eq, Bool.not_eq_true', decide_eq_true_eq, List.all_eq_true, bne_iff_ne, Bool.or_eq_true] at hok
  obtain ⟨⟨⟨⟨⟨⟨hk, hco⟩, hgen⟩, hnm⟩, hfree⟩, hnd⟩, hpar⟩ := hok
  unfold callF at hF
  cases hm : bindP xs args with
  | none => rw [hm] at hF; cases hF
  | some m =>
    rw [hm] at hF
    dsimp only at hF
    obtain ⟨hl, hv⟩ := bind_vals (k := (callEnvC fd s.heap.objs.size fa).kindOf) xs args vs m hnd hm r
    refine wpAny_call (codeAny_call_cells (by have := hA.dp; omega) (hb _ _ ho) hd (hlim.keeps hb) ?_ hbody (hbind vs hl) hcl (fun x hx => ?_) (fun s₁ x => ?_) hco hgen hk)
    · obtain ⟨c, oc, vs', t, h1, h2, h3, h4⟩ := hcd
      exact ⟨c, oc, vs', t, h1, hb _ _ h2, h3, h4⟩
    · have hx' : x.1 ∈ xs := (List.of_mem_zip hx).1
      rcases hpar _ hx' with h | h
      · exact .inl h
      · exact .inr ⟨h, cellsFrom_some _ _ _ (.inl h)⟩
    · have hE : (callEnvC fd s.heap.objs.size fa).scope = fd.scope := rfl
      have hloc : (callEnvC fd s.heap.objs.size fa).locals = s.heap.objs.size := rfl
      have hcells : (callEnvC fd s.heap.objs.size fa).cells = cellsFrom (s.heap.objs.size + 1) fd.scope.names [] := rfl
      have hkind : ∀ y, (callEnvC fd s.heap.objs.size fa).kindOf y = kd fd.scope y := fun y => rfl
      obtain ⟨h₁, tk, rfl, keep⟩ := x.done
      have hge : ∀ b, Fam (callEnvC fd s.heap.objs.size fa) (fun _ => true) b → s.heap.objs.size ≤ b := by
        rintro b (rfl | ⟨y, _, _, hy⟩)
        · exact Nat.le_refl _
        · exact Nat.le_of_lt (x.above y b (mem_of_lookup hy))
      have hnone : ∀ b, Fam (callEnvC fd s.heap.objs.size fa) (fun _ => true) b → s.heap.get? b = none := fun b hb => by
        cases e : s.heap.get? b with
        | none => rfl
        | some o => exact absurd (Heap.lt_size e) (Nat.not_lt.mpr (hge b hb))
      have up : ∀ d' v', RV w s.heap B d' v' → RV w h₁ (fun b => B b ∨ Fam (callEnvC fd s.heap.objs.size fa) (fun _ => true) b) d' v' := fun d' v' r' =>
        RV.step (fun b o nb e => ⟨keep b o e, fun q => q.elim nb fun q => by rw [hnone b q] at e; cases e⟩) d' v' r'
      have F : FS w h₀ (callEnvC fd s.heap.objs.size fa) (fun _ => true) B (Fam (callEnvC fd s.heap.objs.size fa) (fun _ => true)) (fun _ => (0, [])) ⟨m, fun _ => none⟩ h₁ := {
        fr := {
          fe := {
            kind := hk
            gl := hgl
            bl := hbl
            nm := hnm
            base := fun b o e => keep b o (hb b o e)
            hi := fun b q => by
              rcases q with q | q
              · obtain ⟨o, ho⟩ := hi b q; exact ⟨o, keep b o ho⟩
              · rcases q with rfl | ⟨y, _, _, hy⟩
                · obtain ⟨oL, _, _, hL, _⟩ := x.toInCall.ns; exact ⟨oL, hL⟩
                · obtain ⟨oc, hc, _⟩ := x.cell y b hy; exact ⟨oc, hc⟩
            lo := fun b q => by
              rcases q with q | q
              · exact hlo b q
              · cases e : h₀.get? b with
                | none => rfl
                | some o => have := hb b o e; rw [hnone b q] at this; cases this
            var := fun y d' e => by
              obtain ⟨hy, v, rv, h3⟩ := hv y d' e
              refine ⟨v, ?_, up _ _ rv⟩
              rcases hpar y hy with hkl | hkc
              · exact .inl ⟨hkl, _, x.toInCall.ns, (h3 _ (fun _ => none)).1 hkl⟩
              · obtain ⟨c, hc⟩ := Option.isSome_iff_exists.mp (cellsFrom_some (x := y) fd.scope.names (s.heap.objs.size + 1) [] (.inl hkc))
                refine .inr ⟨.inl hkc, c, hc, ?_⟩
                have := x.cell y c hc
                rw [(h3 (fun _ => none) (fun _ => none)).2 (by rw [hkind, hkc]; decide)] at this
                exact this
            cell := fun y hy => by
              have hy : isCellish (kd fd.scope y) = true := hy
              cases hq : kd fd.scope y with
              | none => rw [hq] at hy; cases hy
              | some k =>
                rw [hq] at hy
                cases k with
                | cell => exact Option.isSome_iff_exists.mp (cellsFrom_some (x := y) fd.scope.names (s.heap.objs.size + 1) [] (.inl hq))
                | free => exact absurd rfl (hfree _ (kd_mem hq))
                | _ => cases hy
            cex := fun y c e => let ⟨oc, hc, _⟩ := x.cell y c e; ⟨oc, hc⟩ }
          dj := fun b q z => by obtain ⟨o, ho⟩ := hi b q; rw [hnone b z] at ho; cases ho
          loc := ⟨_, x.toInCall.ns⟩
          mtl := .inl rfl
          cel := fun y _ hy => by
            obtain ⟨c, hc⟩ := Option.isSome_iff_exists.mp (cellsFrom_some (x := y) fd.scope.names (s.heap.objs.size + 1) [] (.inl hy))
            exact ⟨c, _, hc, x.cell y c hc, .inr ⟨y, rfl, hy, hc⟩, Nat.ne_of_gt (x.above y c (mem_of_lookup hc)), fun z hz => name_of_addr x.apart (mem_of_lookup hz) (mem_of_lookup hc)⟩ }
        own := fun y ld e => by cases e
        dis := fun y z _ e => by cases e
        cno := fun y c _ z e => by cases e }
      have go : ∀ r, exs C n fd.scope ⟨m, fun _ => none⟩ body = some r → wpAny (model prog w) (A.deeper (callEnvC fd s.heap.objs.size fa)) (execs body (callEnvC fd s.heap.objs.size fa))
          (SPost w h₀ (callEnvC fd s.heap.objs.size fa) (fun _ => true) B (Fam (callEnvC fd s.heap.objs.size fa) (fun _ => true)) { s with heap := h₁, toks := tk } r) (fun _ _ => False) { s with heap := h₁, toks := tk } := fun r hr =>
        (soundS G n).2 n (Nat.le_refl n) _ _ _ _ _ _ _ _ body r (fun _ => rfl) (hA.deeper _) F hr
      have fin : ∀ s', KBut (Fam (callEnvC fd s.heap.objs.size fa) (fun _ => true)) { s with heap := h₁, toks := tk } s' → Keeps s s' := by
        rintro s' ⟨h2, t2, rfl, k2⟩
        exact ⟨h2, t2, rfl, fun b o e => k2 b o (fun q => by rw [hnone b q] at e; cases e) (keep b o e)⟩
      cases hr : exs C n fd.scope ⟨m, fun _ => none⟩ body with
      | none => rw [hr] at hF; cases hF
      | some r =>
        obtain ⟨ro, st'⟩ := r
        rw [hr] at hF
        refine wpAny_mono (go _ hr) (fun fl s' p => ?_) fun _ _ e => e.elim
        obtain ⟨k, _, p⟩ := p
        cases ro with
        | none =>
          cases hF
          obtain ⟨rfl, _⟩ := p
          exact ⟨fin s' k, by simp only [RV]⟩
        | some d' =>
          cases hF
          obtain ⟨v, rfl, rv⟩ := p
          exact ⟨fin s' k, rv⟩
end

end Mine

end

section
open PySem PySem.W PyProof.Rows PySem.SeqAt
set_option Elab.async false
namespace Mine

/-- a def of the program's top: name, parameters, block, body -/
structure Df where
  f : Str
  xs : List Str
  sc : Scope
  body : List Stmt

noncomputable def dfs (p : Program) : List Df := p.main.body.filterMap fun st => match st with
  | .FunctionDef n a b _ _ _ sc _ _ _ => some ⟨n, a.args.map (·.arg), sc, b⟩
  | _ => none

noncomputable def stepC (n : Nat) (C : Cx) (e : Df) : Cx := { C with fn := (e.f, callF C n e.xs e.sc e.body) :: C.fn }
/-- the defs in turn, each seeing those before it; the last stands first -/
noncomputable def chainC (n : Nat) (C : Cx) : List Df → Cx
  | [] => C
  | e :: r => stepC n (chainC n C r) e

/-- the def stands -/
noncomputable def DfAt (h : Heap) (mg : Str → Option Value) (e : Df) : Prop := ∃ fa o fd, mg e.f = some (.ref fa) ∧ h.get? fa = some o ∧ o.data = .func fd ∧ fd.body = .stmts e.body ∧ fd.scope = e.sc ∧ h.CodeRec fd.code fd.qualname ∧
  fd.globals = mainGlobals ∧ fd.builtins = builtinsNs ∧ fd.closure = [] ∧ defOk e.sc e.xs = true ∧ ∀ vs : List Value, vs.length = e.xs.length → bindArgs fd ⟨vs, []⟩ = pure (e.xs.zip vs)

theorem SoundF.more {prog : Program} {w : World} {h₀ : Heap} {N M : Nat} {fa : Addr} {F : List D → Option D} (s : SoundF prog w h₀ N fa F) (h : N ≤ M) : SoundF prog w h₀ M fa F :=
  fun A s' B args vs d hA => s A s' B args vs d (hA.less h)

section
variable {prog : Program} {w : World} {h₀ : Heap} {C : Cx} {n N : Nat} {mg mb : Str → Option Value}

theorem GW.step (G : GW prog w C N h₀ mg mb) (hlim : h₀.NoLimit) {e : Df} (he : DfAt h₀ mg e) :
    (∃ fa, mg e.f = some (.ref fa) ∧ SoundF prog w h₀ (N + 1) fa (callF C n e.xs e.sc e.body)) ∧ GW prog w (stepC n C e) (N + 1) h₀ mg mb := by
  obtain ⟨fa, o, fd, hm, h2, h3, h4, h5, h6, h7, h8, h9, h10, h11⟩ := he
  have S : SoundF prog w h₀ (N + 1) fa (callF C n e.xs e.sc e.body) := by
    have := soundF_of (n := n) (xs := e.xs) G hlim h2 h3 h4 h6 h7 h8 h9 (by rw [h5]; exact h10) h11
    rwa [h5] at this
  refine ⟨⟨fa, hm, S⟩, G.g, G.b, G.bb, G.gl, fun f F hf => ?_, G.miss⟩
  unfold stepC at hf
  simp only [List.lookup_cons] at hf
  split at hf
  · rename_i q
    cases hf
    exact ⟨fa, fd, o, by rw [beq_iff_eq.mp q]; exact hm, h2, h3, S⟩
  · obtain ⟨fa', fd', o', g1, g2, g3, g4⟩ := G.fn f F hf
    exact ⟨fa', fd', o', g1, g2, g3, g4.more (Nat.le_succ N)⟩

theorem GW.chain (hlim : h₀.NoLimit) (G : GW prog w C N h₀ mg mb) : ∀ l : List Df, (∀ e ∈ l, DfAt h₀ mg e) → GW prog w (chainC n C l) (N + l.length) h₀ mg mb
  | [], _ => G
  | e :: r, h => (GW.step (n := n) (GW.chain hlim G r fun e' he => h e' (List.mem_cons_of_mem _ he)) hlim (h e List.mem_cons_self)).2

/-- a dict's entries: names to ints -/
noncomputable def mkE (P : Params) (l : List (Str × Nat × Int × Nat)) : List DictEntry := l.map fun p => ⟨PyData.keyHash P p.1, .str p.1 p.2.1, .int p.2.2.1 p.2.2.2⟩
noncomputable def dictObj (l : List (Str × Nat × Int × Nat)) (n : Nat) (P : Params) : Obj := { cls := .type "dict", data := .dict (mkE P l).toArray n }

theorem mkE_keys (B : Addr → Prop) : ∀ l : List (Str × Nat × Int × Nat), (∀ p ∈ l, p.1.length ≤ lim) → RVs w h₀ B (l.map fun p => .str p.1) ((mkE w.params l).map (·.key)) ∧ RVs w h₀ B (l.map fun p => .int p.2.2.1) ((mkE w.params l).map (·.val))
  | [], _ => ⟨.nil, .nil⟩
  | p :: l, h => by
    obtain ⟨i1, i2⟩ := mkE_keys B l fun q hq => h q (List.mem_cons_of_mem _ hq)
    exact ⟨.cons (by simp only [RV]; exact ⟨_, rfl, h p List.mem_cons_self⟩) i1, .cons (by simp only [RV]; exact ⟨_, rfl⟩) i2⟩

theorem dict_rv {a : Addr} {l : List (Str × Nat × Int × Nat)} {n : Nat} (ha : h₀.get? a = some (dictObj l n w.params)) (hs : a ≠ sysModules) (hnd : (l.map (·.1)).Nodup) (hl : ∀ p ∈ l, p.1.length ≤ lim) :
    RV w h₀ (fun _ => False) (.dict ((l.map (·.1)).map .str) ((l.map fun p => p.2.2.1).map .int)) (.ref a) := by
  obtain ⟨i1, i2⟩ := mkE_keys (w := w) (h₀ := h₀) (fun _ => False) l hl
  simp only [RV]
  refine ⟨a, (mkE w.params l).toArray, n, rfl, fun q => q, hs, ha, by simpa [List.map_map, Function.comp_def] using i1, by simpa [List.map_map, Function.comp_def] using i2, .inl ⟨l.map (·.1), rfl, hnd, fun e he => ?_⟩⟩
  have he : e ∈ mkE w.params l := he
  obtain ⟨p, _, rfl⟩ := List.mem_map.mp he
  exact ⟨p.1, p.2.1, rfl, rfl⟩

theorem ints_rv {B : Addr → Prop} : ∀ {vs : List Value} {is : List Int}, IntsAre vs is → RVs w h₀ B (is.map .int) vs
  | _, _, .nil => .nil
  | _, _, .cons n t r => .cons (by simp only [RV]; exact ⟨t, rfl⟩) (ints_rv r)

theorem well_list {h : Heap} {P : Params} {a : Addr} {vs : List Value} {xs : List PyData} (W : Well P h (.ref a) (ofPy (.list xs))) (L : h.IsList a vs.toArray) : h.get? a = some { cls := .type "list", data := .seq vs.toArray } := by
  have W : Well P h (.ref a) (WData.list (ofPys xs)) := W
  cases W with
  | @list _ vs' _ h1 _ =>
    obtain ⟨o, h2, _, n, h3⟩ := L
    rw [h1] at h2
    cases h2
    cases h3
    exact h1

theorem good_end {c : ClaimW} {cl : Str → Option Addr} {mean : ExcName → Option Value} {args : List WData} {s₁ s' : Shared} {v : Value} (hg : s₁.gens = #[]) (k : Keeps s₁ s') (hv : v = .bool true) (hn : ∀ cls, c.raises args cls = false)
    (hp : c.post args (.bool true) args = true) : GoodWG c cl mean args s₁ (.ok (.ret v)) s' := by
  subst hv
  obtain ⟨h', tk, rfl, kk⟩ := k
  exact GoodW.toG ⟨.inl ⟨_, .bool true, [], rfl, hn, .bool true, hp, fun _ => ⟨.nil, fun a h => by cases h⟩⟩, kk, rfl, hg⟩

theorem run_law {s₁ : Shared} {fa a : Addr} {vs : List Value} {is : List Int} {F : List D → Option D} (SF : SoundF prog w s₁.heap N fa F) (hN : N ≤ 30) (ha : s₁.heap.get? a = some { cls := .type "list", data := .seq vs.toArray }) (hi : IntsAre vs is) (hl : is.length ≤ lim)
    (hF : F [.list (is.map .int)] = some (.bool true)) : wpAny (model prog w) callerA (call (.ref fa) [.ref a]) (fun v s' => Keeps s₁ s' ∧ v = .bool true) (fun _ _ => False) s₁ := by
  refine wpAny_mono (SF callerA s₁ (fun _ => False) [.list (is.map .int)] [.ref a] (.bool true) ⟨rfl, ?_, ?_⟩ (fun _ _ e => e) (fun _ h => h.elim) (fun _ h => h.elim) (.one ?_) hF) (fun v s' h => ⟨h.1, by simpa only [RV] using h.2⟩) fun _ _ e => e
  · show 1 + claimMargin + N < recursionLimit
    have : claimMargin = 300 := rfl
    have : recursionLimit = 1000 := rfl
    omega
  · show 4 + 8 * N + 300 < cLine
    have : cLine = 9900 := rfl
    omega
  · simp only [RV]
    exact ⟨a, vs, _, rfl, fun q => q, ha, ints_rv hi, by simpa using hl⟩
end

/- the head of one's own -/
noncomputable def usedN : List Str := ["_MAX_STRING_SIZE", "_MOVE_COST", "_CASE_COST", "ENDMARKER", "NT_OFFSET"]
noncomputable def exactN : Str := "EXACT_TOKEN_TYPES"
noncomputable def asgN : Stmt → Option Str
  | .Assign [.Name x _] _ _ => some x
  | _ => none
noncomputable def keepS (s : Stmt) : Bool := match asgN s with
  | some x => usedN.contains x
  | none => true
/-- the defs and the names that are used; the other names are not asked for -/
noncomputable def viewOf (p : Program) : Program := { p with main := { p.main with body := p.main.body.filter keepS } }
noncomputable def looseOf (p : Program) : List Str := (p.main.body.filterMap fun s => (asgN s).bind fun x => if usedN.contains x then none else some x).eraseDups
noncomputable def xtOf (p : Program) (R : WRecords) : Shared → Bool := fun s => xlAt (viewOf p) [] s && recOk R s
noncomputable def seenN : List Str := usedN ++ exactN :: bnames
/-- what is seen of the state behind the top -/
noncomputable def obsOf (a : Addr) (s : Shared) : List (Option Value) × Option Obj := (seenN.map (s.heap.nsMap mainGlobals), s.heap.get? a)
noncomputable def valOf (a : Addr) (ts : List Tok) (l : List (Str × Nat × Int × Nat)) (n : Nat) (w : World) : List (Option Value) × Option Obj :=
  ((List.zip ([40, 2, 1, 0, 256] : List Int) ts).map (fun p => some (Value.int p.1 p.2)) ++ some (.ref a) :: bnames.map fun _ => none, some (dictObj l n w.params))
noncomputable def saysOf (a : Addr) (ts : List Tok) (l : List (Str × Nat × Int × Nat)) (n : Nat) (w : World) (h : Heap) : Prop :=
  (seenN.map (h.nsMap mainGlobals), h.get? a) = valOf a ts l n w ∧ ∃ o, h.get? mainGlobals = some o

theorem says_of {a : Addr} {ts : List Tok} {l : List (Str × Nat × Int × Nat)} {n : Nat} (w : World) (s : Shared) (e : obsOf a s = valOf a ts l n w) : saysOf a ts l n w s.heap := by
  refine ⟨e, ?_⟩
  cases h : s.heap.get? mainGlobals with
  | some o => exact ⟨o, rfl⟩
  | none =>
    have e1 : seenN.map (s.heap.nsMap mainGlobals) = (valOf a ts l n w).1 := congrArg Prod.fst e
    have h0 : ∀ x, s.heap.nsMap mainGlobals x = none := fun x => by unfold Heap.nsMap; rw [h]
    have e2 : some (Value.ref a) ∈ (valOf a ts l n w).1 := by unfold valOf; simp
    rw [← e1] at e2
    obtain ⟨x, _, hx⟩ := List.mem_map.mp e2
    rw [h0] at hx; cases hx
theorem says_keeps {a : Addr} {ts : List Tok} {l : List (Str × Nat × Int × Nat)} {n : Nat} (w : World) (h h' : Heap) (x : saysOf a ts l n w h) (hk : ∀ b o, h.get? b = some o → h'.get? b = some o) : saysOf a ts l n w h' := by
  obtain ⟨e, o, ho⟩ := x
  refine ⟨?_, o, hk _ _ ho⟩
  have e2 : h.get? a = some (dictObj l n w.params) := congrArg Prod.snd e
  have hn : h'.nsMap mainGlobals = h.nsMap mainGlobals := by
    funext y; unfold Heap.nsMap; rw [ho, hk _ _ ho]
  rw [hn, hk _ _ e2, ← e2]; exact e

section
variable {prog q : Program} {loose : List Str} {R : WRecords} {XP : (Str → Option Value) → Heap → Prop} {w : World} {s₀ : Shared} {h : Heap} {mg mb : Str → Option Value}
theorem df_at (G : Ground q loose R XP w s₀ mg mb h) {e : Df} {d : DefRec} (hd : defOf q e.f = some (d, [])) (h0 : d.params.defaults = []) (hb : d.body = e.body) (hs : d.scope = e.sc) (hok : defOk e.sc e.xs = true)
    (hbind : ∀ pm cd doc kV, ∀ vs : List Value, vs.length = e.xs.length → bindArgs { Calls.docDef d.name d.params d.body d.scope pm cd doc with defaults := .none, kwdefaults := kV } ⟨vs, []⟩ = pure (e.xs.zip vs)) : DfAt h mg e := by
  obtain ⟨a, o, pm, cd, doc, dV, kV, h1, h2, h3, h4, h5⟩ := G.fn hd
  have hV : dV = .none := by
    rcases h5.pos with ⟨_, h⟩ | ⟨h, _⟩
    · exact h
    · exact absurd h0 h
  subst hV
  exact ⟨a, o, _, h1, h2, h3, by rw [← hb]; rfl, hs, h4, rfl, rfl, rfl, hok, hbind pm cd doc kV⟩

theorem df_at1 (G : Ground q loose R XP w s₀ mg mb h) {e : Df} {d : DefRec} (hd : defOf q e.f = some (d, [])) (h0 : d.params.defaults = []) (hb : d.body = e.body) (hs : d.scope = e.sc) (hok : defOk e.sc e.xs = true) (hl : e.xs.length = 1)
    (hbind : ∀ pm cd doc kV v, bindArgs { Calls.docDef d.name d.params d.body d.scope pm cd doc with defaults := .none, kwdefaults := kV } ⟨[v], []⟩ = pure (e.xs.zip [v])) : DfAt h mg e :=
  df_at G hd h0 hb hs hok fun pm cd doc kV vs h => by
    rw [hl] at h
    obtain ⟨v, rfl⟩ := List.length_eq_one_iff.mp h
    exact hbind ..
theorem df_at2 (G : Ground q loose R XP w s₀ mg mb h) {e : Df} {d : DefRec} (hd : defOf q e.f = some (d, [])) (h0 : d.params.defaults = []) (hb : d.body = e.body) (hs : d.scope = e.sc) (hok : defOk e.sc e.xs = true) (hl : e.xs.length = 2)
    (hbind : ∀ pm cd doc kV v u, bindArgs { Calls.docDef d.name d.params d.body d.scope pm cd doc with defaults := .none, kwdefaults := kV } ⟨[v, u], []⟩ = pure (e.xs.zip [v, u])) : DfAt h mg e :=
  df_at G hd h0 hb hs hok fun pm cd doc kV vs h => by
    rw [hl] at h
    obtain ⟨v, vs, rfl⟩ := List.exists_cons_of_length_eq_add_one h
    obtain ⟨u, rfl⟩ := List.length_eq_one_iff.mp (Nat.succ.inj h)
    exact hbind ..
theorem df_at3 (G : Ground q loose R XP w s₀ mg mb h) {e : Df} {d : DefRec} (hd : defOf q e.f = some (d, [])) (h0 : d.params.defaults = []) (hb : d.body = e.body) (hs : d.scope = e.sc) (hok : defOk e.sc e.xs = true) {k : Nat} (hl : e.xs.length = k + 3)
    (hbind : ∀ pm cd doc kV v u t l, l.length = k → bindArgs { Calls.docDef d.name d.params d.body d.scope pm cd doc with defaults := .none, kwdefaults := kV } ⟨v :: u :: t :: l, []⟩ = pure (e.xs.zip (v :: u :: t :: l))) : DfAt h mg e :=
  df_at G hd h0 hb hs hok fun pm cd doc kV vs h => by
    rw [hl] at h
    obtain ⟨v, vs, rfl⟩ := List.exists_cons_of_length_eq_add_one h
    obtain ⟨u, vs, rfl⟩ := List.exists_cons_of_length_eq_add_one (Nat.succ.inj h)
    obtain ⟨t, vs, rfl⟩ := List.exists_cons_of_length_eq_add_one (Nat.succ.inj (Nat.succ.inj h))
    exact hbind _ _ _ _ _ _ _ _ (Nat.succ.inj (Nat.succ.inj (Nat.succ.inj h)))
/-- the globals that the defs read -/
noncomputable def glOf (l : List (Str × Nat × Int × Nat)) : List (Str × D) := List.zip usedN ([.int 40, .int 2, .int 1, .int 0, .int 256] : List D) ++ [(exactN, .dict ((l.map (·.1)).map .str) ((l.map fun p => p.2.2.1).map .int))]

theorem gw_base {a : Addr} {t1 t2 t3 t4 t5 : Tok} {l : List (Str × Nat × Int × Nat)} {n : Nat} (Y : saysOf a [t1, t2, t3, t4, t5] l n w h) (g : h.Ns mainGlobals mg) (b : h.Ns builtinsNs mb) (bb : ∀ x, x ≠ Str.ofString "__name__" → mb x = bootBuiltins x)
    (hs : a ≠ sysModules) (hnd : (l.map (·.1)).Nodup) (hl : ∀ p ∈ l, p.1.length ≤ lim) {hint : Nat → Hint} : GW prog w ⟨glOf l, [], hint⟩ 0 h mg mb := by
  have e1 : seenN.map mg = (valOf a [t1, t2, t3, t4, t5] l n w).1 := g.eq_nsMap ▸ congrArg Prod.fst Y.1
  have m (k : Nat) : (seenN.map mg)[k]? = (valOf a [t1, t2, t3, t4, t5] l n w).1[k]? := congrArg (fun l => l[k]?) e1
  have hb : bnames.map mg = bnames.map fun _ => none := congrArg (List.drop 6) e1
  have hg : ∀ p ∈ glOf l, ∃ v, mg p.1 = some v ∧ RV w h (fun _ => False) p.2 v :=
    List.forall_mem_cons.mpr ⟨⟨_, Option.some.inj (m 0), rv_int⟩, List.forall_mem_cons.mpr ⟨⟨_, Option.some.inj (m 1), rv_int⟩, List.forall_mem_cons.mpr ⟨⟨_, Option.some.inj (m 2), rv_int⟩, List.forall_mem_cons.mpr ⟨⟨_, Option.some.inj (m 3), rv_int⟩,
      List.forall_mem_cons.mpr ⟨⟨_, Option.some.inj (m 4), rv_int⟩, List.forall_mem_cons.mpr ⟨⟨_, Option.some.inj (m 5), dict_rv (congrArg Prod.snd Y.1) hs hnd hl⟩, fun _ h => nomatch h⟩⟩⟩⟩⟩⟩
  exact ⟨g, b, bb, fun x d hx => hg (x, d) (mem_of_lookup hx), fun f F hf => (nomatch hf), List.map_inj_left.mp hb⟩
end

/-- the top's run in two halves of the world's one row -/
theorem left_of {p : Program} {α : Type} {Yf : Shared → α} {Ya : World → α} {R : WRecords} {N : Nat} (e : opening p = plainProg p.main.scope.names) (hN : Nat.ble 600 N = true) (f : ∀ s, fenceModules? p s = some s)
    (hF : ∀ (w : World) (os : OsState), (topFrom treeTable p (w.withFollow "special-get-raises" false) N ⟨boot_heap w.params, Array.mk [], boot_drawn, boot_toks, os⟩).map (fun s => (openSeen (viewOf p) (looseOf p) (importedModules p.main.body) (xtOf p R) true s, Yf s)) = some (openGood (viewOf p) (looseOf p), Ya (w.withFollow "special-get-raises" false)))
    (hT : ∀ (w : World) (os : OsState), (topFrom treeTable p (w.withFollow "special-get-raises" true) N ⟨boot_heap w.params, Array.mk [], boot_drawn, boot_toks, os⟩).map (fun s => (openSeen (viewOf p) (looseOf p) (importedModules p.main.body) (xtOf p R) true s, Yf s)) = some (openGood (viewOf p) (looseOf p), Ya (w.withFollow "special-get-raises" true))) :
    LeftO p (viewOf p) (looseOf p) (xtOf p R) Yf Ya N := by
  refine LeftO.of_split "special-get-raises" fun w => ?_
  have hb := boot_open (p := p) (N := N) e hN f w
  cases hs : fencedOpening treeTable p w N with
  | none => rw [hs] at hb; cases hb
  | some s =>
    rw [hs] at hb
    obtain ⟨sh, sg, sd, st, os⟩ := s
    simp only [Option.map_some, Option.some.injEq, Prod.mk.injEq] at hb
    obtain ⟨rfl, rfl, rfl, rfl⟩ := hb
    show some (_, _) = _
    rw [hF w os, hT w os]

end Mine

end

section
open PySem PySem.W PyProof.Rows
set_option Elab.async false
set_option maxRecDepth 100000
namespace Mine
noncomputable abbrev pr3 : Program := PySem.Challenge.pw_pk0085_03
noncomputable def d3 (i : Nat) : Df := (dfs pr3).getD i ⟨Str.empty, [], pr3.main.scope, []⟩
noncomputable def rec3 (i : Nat) : DefRec := (recsOf (viewOf pr3)).getD i ⟨Str.empty, ⟨[], [], none, [], [], none, []⟩, [], pr3.main.scope, ⟨0, 0, 0, 0⟩⟩
noncomputable def tab3 : List (Str × Nat × Int × Nat) := [(Str.ofString "!", 325, 54, 321), (Str.ofString "!=", 327, 28, 269), (Str.ofString "%", 329, 24, 261), (Str.ofString "%=", 331, 40, 293), (Str.ofString "&", 333, 19, 251), (Str.ofString "&=", 335, 41, 295), (Str.ofString "(", 337, 7, 227), (Str.ofString ")", 339, 8, 229), (Str.ofString "*", 341, 16, 245), (Str.ofString "**", 343, 35, 283), (Str.ofString "**=", 345, 46, 305), (Str.ofString "*=", 347, 38, 289), (Str.ofString "+", 349, 14, 241), (Str.ofString "+=", 351, 36, 285), (Str.ofString ",", 353, 12, 237), (Str.ofString "-", 355, 15, 243), (Str.ofString "-=", 357, 37, 287), (Str.ofString "->", 359, 51, 315), (Str.ofString ".", 361, 23, 259), (Str.ofString "...", 363, 52, 317), (Str.ofString "/", 365, 17, 247), (Str.ofString "//", 367, 47, 307), (Str.ofString "//=", 369, 48, 309), (Str.ofString "/=", 371, 39, 291), (Str.ofString ":", 373, 11, 235), (Str.ofString ":=", 375, 53, 319), (Str.ofString ";", 377, 13, 239), (Str.ofString "<", 379, 20, 253), (Str.ofString "<<", 381, 33, 279), (Str.ofString "<<=", 383, 44, 301), (Str.ofString "<=", 385, 29, 271), (Str.ofString "=", 387, 22, 257), (Str.ofString "==", 389, 27, 267), (Str.ofString ">", 391, 21, 255), (Str.ofString ">=", 393, 30, 273), (Str.ofString ">>", 394, 34, 281), (Str.ofString ">>=", 395, 45, 303), (Str.ofString "@", 396, 49, 311), (Str.ofString "@=", 397, 50, 313), (Str.ofString "[", 398, 9, 231), (Str.ofString "]", 399, 10, 233), (Str.ofString "^", 400, 32, 277), (Str.ofString "^=", 401, 43, 299), (Str.ofString "{", 402, 25, 263), (Str.ofString "|", 403, 18, 249), (Str.ofString "|=", 404, 42, 297), (Str.ofString "}", 405, 26, 265), (Str.ofString "~", 406, 31, 275)]
noncomputable def toks3 : List Tok := [189, 191, 193, 225, 323]
noncomputable abbrev Yv3 := valOf 29 toks3 tab3 48
noncomputable abbrev R3 : WRecords := RowW.records PySem.Challenge.rw_pk0085_03.row.toRowW

theorem hl3F (w : World) (os : OsState) : (topFrom treeTable pr3 (w.withFollow "special-get-raises" false) 3894 ⟨boot_heap w.params, Array.mk [], boot_drawn, boot_toks, os⟩).map (fun s => (openSeen (viewOf pr3) (looseOf pr3) (importedModules pr3.main.body) (xtOf pr3 R3) true s, obsOf 29 s)) =
    some (openGood (viewOf pr3) (looseOf pr3), Yv3 (w.withFollow "special-get-raises" false)) := by
  rw [Fast.te14364793385576792824]
  unfold topFrom
  rw [Fast.te14082659384304107361, Fast.te4187177175401517315]
  kernel_rfl
theorem hl3T (w : World) (os : OsState) : (topFrom treeTable pr3 (w.withFollow "special-get-raises" true) 3894 ⟨boot_heap w.params, Array.mk [], boot_drawn, boot_toks, os⟩).map (fun s => (openSeen (viewOf pr3) (looseOf pr3) (importedModules pr3.main.body) (xtOf pr3 R3) true s, obsOf 29 s)) =
    some (openGood (viewOf pr3) (looseOf pr3), Yv3 (w.withFollow "special-get-raises" true)) := by
  rw [Fast.te14364793385576792824]
  unfold topFrom
  rw [Fast.te14082659384304107361, Fast.te4187177175401517315]
  kernel_rfl
theorem hl3 : LeftO pr3 (viewOf pr3) (looseOf pr3) (xtOf pr3 R3) (obsOf 29) Yv3 3894 := left_of (by kernel_rfl) (by kernel_rfl) (fun s => by kernel_rfl) hl3F hl3T

section
variable {loose : List Str} {R : WRecords} {XP : (Str → Option Value) → Heap → Prop} {w : World} {s₀ : Shared} {h : Heap} {mg mb : Str → Option Value}
theorem df3_0 (G : Ground (viewOf pr3) loose R XP w s₀ mg mb h) : DfAt h mg (d3 0) := df_at2 (d := rec3 0) G (by kernel_rfl) (by kernel_rfl) (by kernel_rfl) (by kernel_rfl) (by kernel_rfl) (by kernel_rfl) fun pm cd doc kV a b => by kernel_rfl
theorem df3_1 (G : Ground (viewOf pr3) loose R XP w s₀ mg mb h) : DfAt h mg (d3 1) := df_at3 (d := rec3 1) (k := 0) G (by kernel_rfl) (by kernel_rfl) (by kernel_rfl) (by kernel_rfl) (by kernel_rfl) (by kernel_rfl) fun pm cd doc kV a b c l hl => by rw [List.length_eq_zero_iff.mp hl]; kernel_rfl
theorem df3_2 (G : Ground (viewOf pr3) loose R XP w s₀ mg mb h) : DfAt h mg (d3 2) := df_at1 (d := rec3 2) G (by kernel_rfl) (by kernel_rfl) (by kernel_rfl) (by kernel_rfl) (by kernel_rfl) (by kernel_rfl) fun pm cd doc kV a => by kernel_rfl
theorem df3_3 (G : Ground (viewOf pr3) loose R XP w s₀ mg mb h) : DfAt h mg (d3 3) := df_at1 (d := rec3 3) G (by kernel_rfl) (by kernel_rfl) (by kernel_rfl) (by kernel_rfl) (by kernel_rfl) (by kernel_rfl) fun pm cd doc kV a => by kernel_rfl
theorem df3_4 (G : Ground (viewOf pr3) loose R XP w s₀ mg mb h) : DfAt h mg (d3 4) := df_at1 (d := rec3 4) G (by kernel_rfl) (by kernel_rfl) (by kernel_rfl) (by kernel_rfl) (by kernel_rfl) (by kernel_rfl) fun pm cd doc kV a => by kernel_rfl
theorem df3_5 (G : Ground (viewOf pr3) loose R XP w s₀ mg mb h) : DfAt h mg (d3 5) := df_at1 (d := rec3 5) G (by kernel_rfl) (by kernel_rfl) (by kernel_rfl) (by kernel_rfl) (by kernel_rfl) (by kernel_rfl) fun pm cd doc kV a => by kernel_rfl
theorem df3_6 (G : Ground (viewOf pr3) loose R XP w s₀ mg mb h) : DfAt h mg (d3 6) := df_at3 (d := rec3 6) (k := 1) G (by kernel_rfl) (by kernel_rfl) (by kernel_rfl) (by kernel_rfl) (by kernel_rfl) (by kernel_rfl) fun pm cd doc kV a b c l hl => by obtain ⟨d, rfl⟩ := List.length_eq_one_iff.mp hl; kernel_rfl
theorem df3_7 (G : Ground (viewOf pr3) loose R XP w s₀ mg mb h) : DfAt h mg (d3 7) := df_at2 (d := rec3 7) G (by kernel_rfl) (by kernel_rfl) (by kernel_rfl) (by kernel_rfl) (by kernel_rfl) (by kernel_rfl) fun pm cd doc kV a b => by kernel_rfl
theorem df3_8 (G : Ground (viewOf pr3) loose R XP w s₀ mg mb h) : DfAt h mg (d3 8) := df_at2 (d := rec3 8) G (by kernel_rfl) (by kernel_rfl) (by kernel_rfl) (by kernel_rfl) (by kernel_rfl) (by kernel_rfl) fun pm cd doc kV a b => by kernel_rfl
theorem df3_9 (G : Ground (viewOf pr3) loose R XP w s₀ mg mb h) : DfAt h mg (d3 9) := df_at2 (d := rec3 9) G (by kernel_rfl) (by kernel_rfl) (by kernel_rfl) (by kernel_rfl) (by kernel_rfl) (by kernel_rfl) fun pm cd doc kV a b => by kernel_rfl
theorem df3_10 (G : Ground (viewOf pr3) loose R XP w s₀ mg mb h) : DfAt h mg (d3 10) := df_at2 (d := rec3 10) G (by kernel_rfl) (by kernel_rfl) (by kernel_rfl) (by kernel_rfl) (by kernel_rfl) (by kernel_rfl) fun pm cd doc kV a b => by kernel_rfl
theorem df3_11 (G : Ground (viewOf pr3) loose R XP w s₀ mg mb h) : DfAt h mg (d3 11) := df_at3 (d := rec3 11) (k := 2) G (by kernel_rfl) (by kernel_rfl) (by kernel_rfl) (by kernel_rfl) (by kernel_rfl) (by kernel_rfl) fun pm cd doc kV a b c l hl => by obtain ⟨d, l, rfl⟩ := List.exists_cons_of_length_eq_add_one hl; obtain ⟨e, rfl⟩ := List.length_eq_one_iff.mp (Nat.succ.inj hl); kernel_rfl
theorem df3_12 (G : Ground (viewOf pr3) loose R XP w s₀ mg mb h) : DfAt h mg (d3 12) := df_at3 (d := rec3 12) (k := 1) G (by kernel_rfl) (by kernel_rfl) (by kernel_rfl) (by kernel_rfl) (by kernel_rfl) (by kernel_rfl) fun pm cd doc kV a b c l hl => by obtain ⟨d, rfl⟩ := List.length_eq_one_iff.mp hl; kernel_rfl
theorem df3_13 (G : Ground (viewOf pr3) loose R XP w s₀ mg mb h) : DfAt h mg (d3 13) := df_at1 (d := rec3 13) G (by kernel_rfl) (by kernel_rfl) (by kernel_rfl) (by kernel_rfl) (by kernel_rfl) (by kernel_rfl) fun pm cd doc kV a => by kernel_rfl
noncomputable def l3 : List Df := [d3 12, d3 11, d3 10, d3 9, d3 8, d3 7, d3 6, d3 5, d3 4, d3 3, d3 2, d3 1, d3 0]
theorem dfs3 (G : Ground (viewOf pr3) loose R XP w s₀ mg mb h) : ∀ e ∈ l3, DfAt h mg e :=
  List.forall_mem_cons.mpr ⟨df3_12 G, List.forall_mem_cons.mpr ⟨df3_11 G, List.forall_mem_cons.mpr ⟨df3_10 G, List.forall_mem_cons.mpr ⟨df3_9 G, List.forall_mem_cons.mpr ⟨df3_8 G, List.forall_mem_cons.mpr ⟨df3_7 G, List.forall_mem_cons.mpr ⟨df3_6 G, List.forall_mem_cons.mpr ⟨df3_5 G, List.forall_mem_cons.mpr ⟨df3_4 G, List.forall_mem_cons.mpr ⟨df3_3 G, List.forall_mem_cons.mpr ⟨df3_2 G, List.forall_mem_cons.mpr ⟨df3_1 G, List.forall_mem_cons.mpr ⟨df3_0 G, fun _ h => nomatch h⟩⟩⟩⟩⟩⟩⟩⟩⟩⟩⟩⟩⟩
end

noncomputable def fuel3 : Nat := 400
noncomputable def c3 (hint : Nat → Hint) : Cx := chainC fuel3 ⟨glOf tab3, [], hint⟩ l3
/-- the law's own datum -/
noncomputable def law3 (hint : Nat → Hint) (is : List Int) : Option D := callF (c3 hint) fuel3 (d3 13).xs (d3 13).sc (d3 13).body [.list (is.map .int)]

theorem said3 : PySem.Challenge.rw_pk0085_03.wellSaid = true := by rw [Fast.te9446332074065402090]; kernel_rfl
theorem top3 (hint : Nat → Hint) (H : ∀ is : List Int, is.length ≤ 63 → law3 hint is = some (.bool true)) : PySem.Challenge.rw_pk0085_03.Holds := by
  refine holds_law said3 fun said => ?_
  refine holds_open (q := viewOf pr3) (loose := looseOf pr3) (Xt := xtOf pr3 R3) (XP := XL (viewOf pr3) []) (Yf := obsOf 29) (Ya := Yv3) (YP := saysOf 29 toks3 tab3 48) (d := rec3 13) (kwd := []) (N := 3894) hl3 says_of says_keeps
    (fun s e => xl_of s (Bool.and_eq_true_iff.mp e).1) XL.keeps (by kernel_rfl) (by kernel_rfl) (by kernel_rfl) (fun s e => recFacts_of (Bool.and_eq_true_iff.mp e).2) (by kernel_rfl) said (by kernel_rfl) ⟨rfl, rfl, rfl, rfl, rfl, by decide +kernel⟩ ?hw ?hc
  case hw => exact ⟨[.list []], by decide +kernel, by decide +kernel⟩
  intro w s₀ s₁ mg mb G Y fa o pm cd doc dV kV ho hd hcd hD hmg hg args vals as hpre hlay hrd hwl hlo
  have T := topRead_of G.T
  have GB : GW (PySem.Challenge.rw_pk0085_03.row.prog) w (c3 hint) (0 + l3.length) s₁.heap mg mb :=
    GW.chain T.nolimit (gw_base Y T.g T.b T.builtins (by decide) (by decide +kernel) (by decide +kernel)) l3 (dfs3 G)
  obtain ⟨⟨fa', hfa', SF⟩, _⟩ := GW.step (n := fuel3) GB T.nolimit (df3_13 G)
  have hff : fa' = fa := by
    have e : mg (d3 13).f = some (.ref fa) := hmg
    rw [e] at hfa'
    exact (Value.ref.inj (Option.some.inj hfa')).symm
  subst hff
  clear hd hcd hD hmg ho hfa' GB G Y T
  wrow_args hpre hlay hrd hwl hlo
  all_goals (
    rename_i wl _ hI _ hc _
    refine wpAny_mono (run_law SF (by decide) (well_list (by assumption) (by assumption)) hI (by unfold lim; omega) (H _ (by omega))) (fun v s' h => good_end hg h.1 h.2 (raisesW_false (by wrow_none_raised)) (by wrow_post)) fun _ _ e => e.elim)

end Mine

end

section
set_option Elab.async false
namespace Mine

section
variable (s : Nat → Nat → Nat)

/-- the price to turn a into b -/
noncomputable def L : List Nat → List Nat → Nat
  | [], b => 2 * b.length
  | _ :: a, [] => 2 * (a.length + 1)
  | x :: a, y :: b => min (L a b + s x y) (min (L a (y :: b)) (L (x :: a) b) + 2)
termination_by a b => a.length + b.length

/-- a way from a to b, and its price -/
inductive Al : List Nat → List Nat → Nat → Prop where
  | nil : Al [] [] 0
  | del {x : Nat} {a b : List Nat} {c : Nat} : Al a b c → Al (x :: a) b (c + 2)
  | ins {y : Nat} {a b : List Nat} {c : Nat} : Al a b c → Al a (y :: b) (c + 2)
  | sub {x y : Nat} {a b : List Nat} {c : Nat} : Al a b c → Al (x :: a) (y :: b) (c + s x y)
end

structure PriceOk (s : Nat → Nat → Nat) : Prop where
  same : ∀ x, s x x = 0
  symm : ∀ x y, s x y = s y x
  two : ∀ x y, s x y ≤ 2

section
variable {s : Nat → Nat → Nat}

theorem L_nil_l (b : List Nat) : L s [] b = 2 * b.length := by rw [L]
theorem L_nil_r (a : List Nat) : L s a [] = 2 * a.length := by
  cases a with
  | nil => rw [L]
  | cons x a => rw [L]; rfl
theorem L_cons (x y : Nat) (a b : List Nat) : L s (x :: a) (y :: b) = min (L s a b + s x y) (min (L s a (y :: b)) (L s (x :: a) b) + 2) := by rw [L]

theorem le_del (x : Nat) (a b : List Nat) : L s (x :: a) b ≤ L s a b + 2 := by
  cases b with
  | nil => rw [L_nil_r, L_nil_r, List.length_cons]; exact Nat.le_refl _
  | cons y b => rw [L_cons]; exact Nat.le_trans (Nat.min_le_right _ _) (Nat.add_le_add_right (Nat.min_le_left _ _) 2)
theorem le_ins (y : Nat) (a b : List Nat) : L s a (y :: b) ≤ L s a b + 2 := by
  cases a with
  | nil => rw [L_nil_l, L_nil_l, List.length_cons]; exact Nat.le_refl _
  | cons x a => rw [L_cons]; exact Nat.le_trans (Nat.min_le_right _ _) (Nat.add_le_add_right (Nat.min_le_right _ _) 2)
theorem le_sub (x y : Nat) (a b : List Nat) : L s (x :: a) (y :: b) ≤ L s a b + s x y := by rw [L_cons]; exact Nat.min_le_left _ _
theorem cons_min {x y : Nat} {a b : List Nat} (P : Nat → Prop) (h1 : P (L s a b + s x y)) (h2 : P (L s a (y :: b) + 2)) (h3 : P (L s (x :: a) b + 2)) : P (L s (x :: a) (y :: b)) := by
  rw [L_cons, ← Nat.add_min_add_right]
  rcases Nat.le_total (L s a b + s x y) (min (L s a (y :: b) + 2) (L s (x :: a) b + 2)) with h | h
  · rw [Nat.min_eq_left h]; exact h1
  · rw [Nat.min_eq_right h]
    rcases Nat.le_total (L s a (y :: b) + 2) (L s (x :: a) b + 2) with g | g
    · rw [Nat.min_eq_left g]; exact h2
    · rw [Nat.min_eq_right g]; exact h3

theorem al_nil_l : ∀ (b : List Nat), Al s [] b (2 * b.length)
  | [] => .nil
  | y :: b => .ins (al_nil_l b)
theorem al_nil_r : ∀ (a : List Nat), Al s a [] (2 * a.length)
  | [] => .nil
  | x :: a => .del (al_nil_r a)

theorem al_L : ∀ (a b : List Nat), Al s a b (L s a b)
  | [], b => by rw [L_nil_l]; exact al_nil_l b
  | x :: a, [] => by rw [L_nil_r]; exact al_nil_r _
  | x :: a, y :: b => cons_min (Al s (x :: a) (y :: b)) (.sub (al_L a b)) (.del (al_L a (y :: b))) (.ins (al_L (x :: a) b))
termination_by a b => a.length + b.length

theorem L_le {a b : List Nat} {c : Nat} (h : Al s a b c) : L s a b ≤ c := by
  induction h with
  | nil => rw [L_nil_l]; exact Nat.le_refl _
  | del _ ih => exact Nat.le_trans (le_del _ _ _) (Nat.add_le_add_right ih _)
  | ins _ ih => exact Nat.le_trans (le_ins _ _ _) (Nat.add_le_add_right ih _)
  | sub _ ih => exact Nat.le_trans (le_sub _ _ _ _) (Nat.add_le_add_right ih _)

theorem al_append {a b : List Nat} {c : Nat} (h : Al s a b c) {a' b' : List Nat} {c' : Nat} (h' : Al s a' b' c') : Al s (a ++ a') (b ++ b') (c + c') := by
  induction h with
  | nil => rw [Nat.zero_add]; exact h'
  | del _ ih => rw [Nat.add_right_comm]; exact .del ih
  | ins _ ih => rw [Nat.add_right_comm]; exact .ins ih
  | sub _ ih => rw [Nat.add_right_comm]; exact .sub ih

theorem al_rev {a b : List Nat} {c : Nat} (h : Al s a b c) : Al s a.reverse b.reverse c := by
  induction h with
  | nil => exact .nil
  | @del x a b c _ ih =>
    rw [List.reverse_cons]
    have := al_append ih (.del (x := x) .nil)
    rwa [List.append_nil, Nat.zero_add] at this
  | @ins y a b c _ ih =>
    rw [List.reverse_cons]
    have := al_append ih (.ins (y := y) .nil)
    rwa [List.append_nil, Nat.zero_add] at this
  | @sub x y a b c _ ih =>
    rw [List.reverse_cons, List.reverse_cons]
    have := al_append ih (.sub (x := x) (y := y) .nil)
    rwa [Nat.zero_add] at this

theorem L_rev (a b : List Nat) : L s a.reverse b.reverse = L s a b := by
  apply Nat.le_antisymm
  · exact L_le (al_rev (al_L a b))
  · have := L_le (al_rev (al_L (s := s) a.reverse b.reverse))
    rwa [List.reverse_reverse, List.reverse_reverse] at this

theorem al_symm (P : PriceOk s) {a b : List Nat} {c : Nat} (h : Al s a b c) : Al s b a c := by
  induction h with
  | nil => exact .nil
  | del _ ih => exact .ins ih
  | ins _ ih => exact .del ih
  | sub _ ih => rw [P.symm]; exact .sub ih
theorem L_symm (P : PriceOk s) (a b : List Nat) : L s a b = L s b a :=
  Nat.le_antisymm (L_le (al_symm P (al_L b a))) (L_le (al_symm P (al_L a b)))

theorem L_append_le (a b a' b' : List Nat) : L s (a ++ a') (b ++ b') ≤ L s a b + L s a' b' := L_le (al_append (al_L a b) (al_L a' b'))

/-- a way cut in two -/
inductive Sp (s : Nat → Nat → Nat) (u v : List Nat) : List Nat → Nat → Prop where
  | mk {b₁ b₂ : List Nat} {c₁ c₂ : Nat} : Al s u b₁ c₁ → Al s v b₂ c₂ → Sp s u v (b₁ ++ b₂) (c₁ + c₂)
theorem Sp.del {u v b : List Nat} {c x : Nat} : Sp s u v b c → Sp s (x :: u) v b (c + 2)
  | .mk h1 h2 => (Nat.add_right_comm _ _ _).symm ▸ .mk (.del h1) h2
theorem Sp.ins {u v b : List Nat} {c x : Nat} : Sp s u v b c → Sp s u v (x :: b) (c + 2)
  | .mk h1 h2 => (Nat.add_right_comm _ _ _).symm ▸ .mk (.ins h1) h2
theorem Sp.sub {u v b : List Nat} {c x y : Nat} : Sp s u v b c → Sp s (x :: u) v (y :: b) (c + s x y)
  | .mk h1 h2 => (Nat.add_right_comm _ _ _).symm ▸ .mk (.sub h1) h2
theorem Sp.none {w b : List Nat} {c : Nat} (h : Al s w b c) : Sp s [] w b c := (Nat.zero_add c) ▸ .mk .nil h
theorem al_split {w b : List Nat} {c : Nat} (h : Al s w b c) : ∀ u v, w = u ++ v → Sp s u v b c := by
  induction h with
  | nil =>
    intro u v e
    obtain ⟨rfl, rfl⟩ := List.append_eq_nil_iff.mp e.symm
    exact .none .nil
  | ins _ ih => exact fun u v e => (ih u v e).ins
  | del h ih =>
    intro u v e
    cases u with
    | nil => cases e; exact .none (.del h)
    | cons z u => cases e; exact (ih u v rfl).del
  | sub h ih =>
    intro u v e
    cases u with
    | nil => cases e; exact .none (.sub h)
    | cons z u => cases e; exact (ih u v rfl).sub

theorem L_split (u v b : List Nat) : ∃ k, k ≤ b.length ∧ L s (u ++ v) b = L s u (b.take k) + L s v (b.drop k) := by
  have h := al_split (al_L (s := s) (u ++ v) b) u v rfl
  generalize hb : b = b' at h
  generalize hc : L s (u ++ v) b' = c at h
  cases h with
  | @mk b₁ b₂ c₁ c₂ h1 h2 =>
    refine ⟨b₁.length, by rw [List.length_append]; exact Nat.le_add_right _ _, ?_⟩
    rw [List.take_left, List.drop_left]
    exact Nat.le_antisymm (hc ▸ L_le (al_append (al_L u b₁) (al_L v b₂))) (Nat.add_le_add (L_le h1) (L_le h2))
theorem L_split_le (u v b : List Nat) (k : Nat) : L s (u ++ v) b ≤ L s u (b.take k) + L s v (b.drop k) := by
  have := L_append_le (s := s) u (b.take k) v (b.drop k)
  rwa [List.take_append_drop] at this

theorem lip_ins (y : Nat) : ∀ (a b : List Nat), L s a b ≤ L s a (y :: b) + 2
  | [], b => by rw [L_nil_l, L_nil_l]; exact Nat.le_trans (Nat.mul_le_mul_left 2 (Nat.le_succ _)) (Nat.le_add_right _ 2)
  | z :: a, b => cons_min (fun t => L s (z :: a) b ≤ t + 2) (Nat.le_trans (le_del z a b) (Nat.add_le_add_right (Nat.le_add_right _ _) 2))
      (Nat.le_trans (le_del z a b) (Nat.add_le_add_right (lip_ins y a b) 2)) (Nat.le_trans (Nat.le_add_right _ 2) (Nat.le_add_right _ 2))
theorem lip_del (P : PriceOk s) (x : Nat) (a b : List Nat) : L s a b ≤ L s (x :: a) b + 2 := by
  rw [L_symm P, L_symm P (x :: a)]; exact lip_ins x b a

theorem L_same (P : PriceOk s) (x : Nat) (a b : List Nat) : L s (x :: a) (x :: b) = L s a b := by
  rw [L_cons, P.same, Nat.add_zero, ← Nat.add_min_add_right]
  exact Nat.min_eq_left (Nat.le_min.mpr ⟨lip_ins x a b, lip_del P x a b⟩)
theorem L_refl (P : PriceOk s) : ∀ a, L s a a = 0
  | [] => by rw [L_nil_l]; rfl
  | x :: a => by rw [L_same P, L_refl P a]
theorem L_pre (P : PriceOk s) : ∀ (p a b : List Nat), L s (p ++ a) (p ++ b) = L s a b
  | [], _, _ => rfl
  | x :: p, a, b => by rw [List.cons_append, List.cons_append, L_same P, L_pre P p]
theorem L_post (P : PriceOk s) (p a b : List Nat) : L s (a ++ p) (b ++ p) = L s a b := by
  rw [← L_rev, List.reverse_append, List.reverse_append, L_pre P, L_rev]

theorem L_len (a b : List Nat) : 2 * b.length ≤ L s a b + 2 * a.length := by
  have := al_L (s := s) a b
  generalize L s a b = c at this
  induction this with
  | nil => exact Nat.le_refl _
  | del _ ih => exact Nat.le_trans ih (Nat.add_le_add (Nat.le_add_right _ _) (Nat.mul_le_mul_left 2 (Nat.le_succ _)))
  | ins _ ih => exact (Nat.add_right_comm _ _ _) ▸ Nat.add_le_add_right ih 2
  | sub _ ih => exact Nat.le_trans (Nat.add_le_add_right ih 2) (Nat.add_le_add_right (Nat.add_le_add_right (Nat.le_add_right _ _) _) 2)
/-- one sign laid over a stretch -/
noncomputable def over (s : Nat → Nat → Nat) (x : Nat) : List Nat → Nat
  | [] => 2
  | y :: t => 2 * t.length + t.foldl (fun m z => min m (s x z)) (s x y)

theorem foldl_min (f : Nat → Nat) : ∀ (t : List Nat) (m k : Nat), t.foldl (fun m z => min m (f z)) (min m k) = min m (t.foldl (fun m z => min m (f z)) k)
  | [], _, _ => rfl
  | y :: t, m, k => by
    simp only [List.foldl_cons]
    rw [Nat.min_assoc, foldl_min f t]

theorem over_cons (x y z : Nat) (t : List Nat) : over s x (y :: z :: t) = min (over s x (z :: t) + 2) (s x y + 2 * (t.length + 1)) := by
  show 2 * (t.length + 1) + t.foldl (fun m z => min m (s x z)) (min (s x y) (s x z)) = min (2 * t.length + t.foldl (fun m z => min m (s x z)) (s x z) + 2) _
  rw [foldl_min, ← Nat.add_min_add_left, Nat.min_comm, Nat.add_right_comm, Nat.add_comm (s x y)]; rfl
theorem over_L (P : PriceOk s) (x : Nat) : ∀ t : List Nat, L s [x] t = over s x t
  | [] => by rw [L_nil_r]; rfl
  | [y] => by
    rw [L_cons, L_nil_l, L_nil_l, L_nil_r]
    exact Nat.min_eq_left (Nat.le_trans (Nat.le_of_eq (Nat.zero_add _)) (Nat.le_trans (P.two x y) (show 2 ≤ 2 + 2 by decide)))
  | y :: z :: t => by
    have h : over s x (z :: t) ≤ 2 * (y :: z :: t).length := by
      have := le_del (s := s) x [] (z :: t)
      rw [L_nil_l, over_L P x (z :: t)] at this; exact this
    rw [L_cons, L_nil_l, L_nil_l, over_L P x (z :: t), over_cons, Nat.min_eq_right h, Nat.min_comm, Nat.add_comm (s x y)]; rfl
end

end Mine

end

section
set_option Elab.async false
namespace Mine

section
variable (s : Nat → Nat → Nat)
/-- one row's turn, as the program takes it: the row's columns from the first, the corner before, the number told last -/
noncomputable def goRow (c : Nat) : List Nat → List Nat → Nat → Nat → List Nat
  | x :: a, r :: rs, d, res => min (min res r + 2) (d + s c x) :: goRow c a rs r (min (min res r + 2) (d + s c x))
  | _, _, _, _ => []
noncomputable def colsOf (P : List Nat) : List Nat → List Nat → List Nat
  | _, [] => []
  | Q, x :: a => L s P (x :: Q) :: colsOf P (x :: Q) a
/-- the row's last number -/
noncomputable def lastN : List Nat → Nat → Nat
  | [], d => d
  | x :: r, _ => lastN r x
noncomputable def minN : List Nat → Int → Int
  | [], m => m
  | x :: r, m => minN r (if (x : Int) < m then x else m)
noncomputable def big : Int := 9223372036854775807
noncomputable def outer (a : List Nat) (mc : Int) : List Nat → Nat → List Nat → Nat → Int
  | [], _, _, res => res
  | c :: b, i, row, _ => if mc < minN (goRow s c a row (2 * i) (2 * i)) big then mc + 1 else outer a mc b (i + 1) (goRow s c a row (2 * i) (2 * i)) (lastN (goRow s c a row (2 * i) (2 * i)) (2 * i))
noncomputable def cp : List Nat → List Nat → Nat
  | x :: a, y :: b => if x = y then cp a b + 1 else 0
  | _, _ => 0
noncomputable def evens (n : Nat) : List Nat := (List.range n).map fun i => 2 + i * 2
noncomputable def levT (mc : Int) (a b : List Nat) : Int :=
  if mc < 2 * ((b.length : Int) - a.length) then mc + 1 else outer s a mc b 0 (evens a.length) 0
noncomputable def levS (mc : Int) (a b : List Nat) : Int :=
  if a = [] ∨ b = [] then 2 * ((a.length : Int) + b.length)
  else if a.length > 40 ∨ b.length > 40 then mc + 1
  else if b.length < a.length then levT s mc b a else levT s mc a b
noncomputable def cut (a : List Nat) (k : Nat) : List Nat := a.take (a.length - k)
noncomputable def levF (a b : List Nat) (mc : Int) : Int :=
  if a = b then 0
  else levS s mc (cut (a.drop (cp a b)) (cp (a.drop (cp a b)).reverse (b.drop (cp a b)).reverse)) (cut (b.drop (cp a b)) (cp (a.drop (cp a b)).reverse (b.drop (cp a b)).reverse))
end

section
variable {s : Nat → Nat → Nat}

theorem go_true (c : Nat) (P : List Nat) : ∀ (a Q : List Nat), goRow s c a (colsOf s P Q a) (L s P Q) (L s (c :: P) Q) = colsOf s (c :: P) Q a
  | [], Q => rfl
  | x :: a, Q => by
    have e : min (min (L s (c :: P) Q) (L s P (x :: Q)) + 2) (L s P Q + s c x) = L s (c :: P) (x :: Q) := by rw [L_cons, Nat.min_comm, Nat.min_comm (L s P (x :: Q))]
    simp only [colsOf, goRow, e]
    rw [go_true c P a (x :: Q)]

theorem go_first (P : PriceOk s) (c d : Nat) (a row : List Nat) : goRow s c a row d d = goRow s c a row d (d + 2) := by
  cases a with
  | nil => rfl
  | cons x a =>
    cases row with
    | nil => rfl
    | cons r rs =>
      have h := P.two c x
      have hd : d + s c x ≤ d + 2 := Nat.add_le_add_left h d
      have e : min (min d r + 2) (d + s c x) = min (min (d + 2) r + 2) (d + s c x) := by
        rw [← Nat.add_min_add_right, ← Nat.add_min_add_right, Nat.min_comm (d + 2), Nat.min_comm (d + 2 + 2), Nat.min_assoc, Nat.min_assoc, Nat.min_eq_right hd, Nat.min_eq_right (Nat.le_trans hd (Nat.le_add_right _ 2))]
      simp only [goRow, e]

theorem go_step (P : PriceOk s) (c : Nat) (p a : List Nat) : goRow s c a (colsOf s p [] a) (2 * p.length) (2 * p.length) = colsOf s (c :: p) [] a := by
  rw [go_first P]
  have := go_true (s := s) c p a []
  rw [L_nil_r, L_nil_r, List.length_cons] at this
  exact this
theorem cols_last (P : List Nat) : ∀ (a Q : List Nat) (d : Nat), a ≠ [] → lastN (colsOf s P Q a) d = L s P (a.reverse ++ Q)
  | [], _, _, h => absurd rfl h
  | [x], Q, d, _ => rfl
  | x :: y :: a, Q, d, _ => by
    have := cols_last P (y :: a) (x :: Q) (L s P (x :: Q)) (by simp)
    simp only [colsOf, lastN] at *
    rw [this, List.reverse_cons, List.reverse_cons, List.reverse_cons]
    simp [List.append_assoc]

theorem cols_mem (P : List Nat) : ∀ (a Q : List Nat) (k : Nat), 1 ≤ k → k ≤ a.length → L s P ((a.take k).reverse ++ Q) ∈ colsOf s P Q a
  | [], _, k, h1, h2 => by simp at h2; omega
  | x :: a, Q, k, h1, h2 => by
    cases k with
    | zero => omega
    | succ k =>
      cases k with
      | zero => simp [colsOf]
      | succ k =>
        have := cols_mem P a (x :: Q) (k + 1) (by omega) (by simpa using h2)
        simp only [colsOf, List.take_succ_cons, List.reverse_cons, List.append_assoc, List.singleton_append]
        exact List.mem_cons_of_mem _ this

theorem minN_le : ∀ (r : List Nat) (m : Int), minN r m ≤ m ∧ ∀ x ∈ r, minN r m ≤ x
  | [], m => ⟨Int.le_refl _, fun x h => by cases h⟩
  | y :: r, m => by
    obtain ⟨h1, h2⟩ := minN_le r (if (y : Int) < m then y else m)
    simp only [minN]
    refine ⟨?_, fun x hx => ?_⟩
    · split at h1 <;> rename_i q
      · rw [if_pos q]; omega
      · rw [if_neg q]; exact h1
    · rcases List.mem_cons.mp hx with rfl | hx
      · split at h1 <;> rename_i q
        · rw [if_pos q]; exact h1
        · rw [if_neg q]; omega
      · exact h2 x hx

theorem outer_ok (P : PriceOk s) (a : List Nat) (mc : Int) (ha : a ≠ []) : ∀ (b p : List Nat) (res : Nat), (b = [] → res = L s p.reverse a.reverse) →
    outer s a mc b p.length (colsOf s p.reverse [] a) res = L s (p ++ b) a ∨ (outer s a mc b p.length (colsOf s p.reverse [] a) res = mc + 1 ∧ mc < L s (p ++ b) a)
  | [], p, res, h => by
    left
    simp only [outer, List.append_nil]
    rw [h rfl, L_rev]
  | c :: b, p, res, _ => by
    have e : goRow s c a (colsOf s p.reverse [] a) (2 * p.length) (2 * p.length) = colsOf s (p ++ [c]).reverse [] a := by
      have := go_step P c p.reverse a
      rw [List.length_reverse] at this
      rw [this]; simp
    simp only [outer, e]
    split
    · rename_i hm
      right
      refine ⟨rfl, ?_⟩
      obtain ⟨k, hk, hL⟩ := L_split (s := s) (p ++ [c]) b a
      have e2 : p ++ c :: b = (p ++ [c]) ++ b := by simp
      rw [e2, hL]
      have hall : ∀ x ∈ colsOf s (p ++ [c]).reverse [] a, mc < x := fun x hx => Int.lt_of_lt_of_le hm ((minN_le _ _).2 x hx)
      have h1 : ∀ j, 1 ≤ j → j ≤ a.length → mc < L s (p ++ [c]) (a.take j) := fun j g1 g2 => by
        have := hall _ (cols_mem (s := s) (p ++ [c]).reverse a [] j g1 g2)
        rwa [List.append_nil, L_rev] at this
      have h0 : mc < L s (p ++ [c]) (a.take k) := by
        rcases Nat.eq_zero_or_pos k with rfl | hp
        · cases a with
          | nil => exact absurd rfl ha
          | cons x a =>
            have g := h1 1 (by omega) (by simp)
            simp only [List.take_succ_cons, List.take_zero] at g ⊢
            have g2 : L s (p ++ [c]) [x] ≤ L s (p ++ [c]) [] := by
              have := L_append_le (s := s) p [] [c] [x]
              have t := P.two c x
              have u := le_sub (s := s) c x [] []
              rw [List.nil_append, L_nil_r] at this
              rw [L_nil_l] at u
              rw [L_nil_r, List.length_append]
              simp only [List.length_cons, List.length_nil] at *
              omega
            omega
        · exact h1 k hp hk
      omega
    · have ih := outer_ok P a mc ha b (p ++ [c]) (lastN (colsOf s (p ++ [c]).reverse [] a) (2 * p.length)) (fun _ => by rw [cols_last _ _ _ _ ha, List.append_nil])
      rw [List.append_assoc, List.singleton_append, List.length_append] at ih
      exact ih

theorem evens_cols : ∀ (a Q : List Nat), colsOf s [] Q a = (List.range a.length).map fun i => 2 + 2 * Q.length + i * 2
  | [], _ => rfl
  | x :: a, Q => by
    simp only [colsOf, List.length_cons]
    rw [List.range_succ_eq_map, List.map_cons, List.map_map, L_nil_l, evens_cols a (x :: Q)]
    congr 1
    · simp only [List.length_cons]; omega
    · apply List.map_congr_left
      intro i _
      simp only [List.length_cons, Function.comp]; omega

theorem evens_eq (a : List Nat) : evens a.length = colsOf s [] [] a := by
  rw [evens_cols]; rfl

theorem levT_ok (P : PriceOk s) (mc : Int) (a b : List Nat) (ha : a ≠ []) (hb : b ≠ []) : levT s mc a b = L s a b ∨ (levT s mc a b = mc + 1 ∧ mc < L s a b) := by
  unfold levT
  split
  · rename_i h
    right
    refine ⟨rfl, ?_⟩
    have := L_len (s := s) a b
    omega
  · have := outer_ok P a mc ha b [] 0 (fun e => absurd e hb)
    rw [List.reverse_nil, ← evens_eq, List.nil_append, L_symm P b a] at this
    exact this

theorem levS_ok (P : PriceOk s) (mc : Int) (a b : List Nat) (h1 : a.length ≤ 40) (h2 : b.length ≤ 40) : levS s mc a b = L s a b ∨ (levS s mc a b = mc + 1 ∧ mc < L s a b) := by
  unfold levS
  split
  · rename_i h
    left
    rcases h with rfl | rfl
    · rw [L_nil_l]; simp
    · rw [L_nil_r]; simp
  rename_i h
  rw [if_neg (by omega)]
  have ha : a ≠ [] := fun e => h (.inl e)
  have hb : b ≠ [] := fun e => h (.inr e)
  split
  · rw [L_symm P a b]; exact levT_ok P mc b a hb ha
  · exact levT_ok P mc a b ha hb

theorem cp_le : ∀ (a b : List Nat), cp a b ≤ a.length ∧ cp a b ≤ b.length ∧ a.take (cp a b) = b.take (cp a b)
  | [], b => by simp [cp]
  | x :: a, [] => by simp [cp]
  | x :: a, y :: b => by
    simp only [cp]
    split
    · rename_i h
      obtain ⟨h1, h2, h3⟩ := cp_le a b
      subst h
      refine ⟨by simp; omega, by simp; omega, ?_⟩
      rw [List.take_succ_cons, List.take_succ_cons, h3]
    · simp

theorem L_drop (P : PriceOk s) (a b : List Nat) : L s (a.drop (cp a b)) (b.drop (cp a b)) = L s a b := by
  obtain ⟨_, _, h⟩ := cp_le a b
  calc L s (a.drop (cp a b)) (b.drop (cp a b)) = L s (a.take (cp a b) ++ a.drop (cp a b)) (a.take (cp a b) ++ b.drop (cp a b)) := (L_pre P _ _ _).symm
    _ = L s a b := by rw [List.take_append_drop, h, List.take_append_drop]

theorem cut_rev (a : List Nat) (k : Nat) : cut a k = (a.reverse.drop k).reverse := by
  unfold cut
  rw [List.drop_reverse, List.reverse_reverse]

theorem L_cut (P : PriceOk s) (a b : List Nat) : L s (cut a (cp a.reverse b.reverse)) (cut b (cp a.reverse b.reverse)) = L s a b := by
  rw [cut_rev, cut_rev, L_rev, L_drop P, L_rev]

theorem cut_length (a : List Nat) (k : Nat) : (cut a k).length = a.length - k := by
  unfold cut; rw [List.length_take]; exact Nat.min_eq_left (Nat.sub_le _ _)

/-- what the program tells: the price, or the bound and one where the price is above it -/
theorem levF_ok (P : PriceOk s) (a b : List Nat) (mc : Int) (h1 : a.length ≤ 40) (h2 : b.length ≤ 40) : levF s a b mc = L s a b ∨ (levF s a b mc = mc + 1 ∧ mc < L s a b) := by
  unfold levF
  split
  · rename_i h; subst h; left; rw [L_refl P]; rfl
  · have := levS_ok P mc (cut (a.drop (cp a b)) (cp (a.drop (cp a b)).reverse (b.drop (cp a b)).reverse)) (cut (b.drop (cp a b)) (cp (a.drop (cp a b)).reverse (b.drop (cp a b)).reverse))
      (by rw [cut_length, List.length_drop]; omega) (by rw [cut_length, List.length_drop]; omega)
    rwa [L_cut P, L_drop P] at this

/-- a run put in is told whatever the bound -/
theorem cp_ge : ∀ (x r y : List Nat), x.length ≤ cp (x ++ r) (x ++ y)
  | [], _, _ => Nat.zero_le _
  | z :: x, r, y => by
    have := cp_ge x r y
    simp only [List.cons_append, cp, if_true, List.length_cons]; omega
theorem cp_pre : ∀ (x y : List Nat), cp x (x ++ y) = x.length ∧ cp (x ++ y) x = x.length
  | [], y => by cases y <;> simp [cp]
  | z :: x, y => by
    obtain ⟨h1, h2⟩ := cp_pre x y
    simp [cp, h1, h2]

theorem cp_comm : ∀ (a b : List Nat), cp a b = cp b a
  | [], [] => rfl
  | [], _ :: _ => rfl
  | _ :: _, [] => rfl
  | x :: a, y :: b => by
    simp only [cp]
    by_cases h : x = y
    · subst h; simp [cp_comm a b]
    · rw [if_neg h, if_neg (Ne.symm h)]

theorem run_cut (x r y : List Nat) : cut ((x ++ y).drop (cp (x ++ y) (x ++ (r ++ y)))) (cp ((x ++ y).drop (cp (x ++ y) (x ++ (r ++ y)))).reverse ((x ++ (r ++ y)).drop (cp (x ++ y) (x ++ (r ++ y)))).reverse) = [] := by
  generalize hc : cp (x ++ y) (x ++ (r ++ y)) = c
  have h1 : x.length ≤ c := by rw [← hc]; exact cp_ge x y (r ++ y)
  have h2 := (cp_le (x ++ y) (x ++ (r ++ y))).1
  rw [hc, List.length_append] at h2
  have e1 : (x ++ y).drop c = y.drop (c - x.length) := by
    rw [List.drop_append, List.drop_eq_nil_of_le h1, List.nil_append]
  -- what is left of the longer ends with what is left of the shorter
  have e2 : ∃ z, (x ++ (r ++ y)).drop c = z ++ y.drop (c - x.length) := by
    rw [List.drop_append, List.drop_eq_nil_of_le h1, List.nil_append]
    refine ⟨(r ++ y.take (c - x.length)).drop (c - x.length), ?_⟩
    rw [← List.drop_append_of_le_length (by rw [List.length_append, List.length_take]; omega), List.append_assoc, List.take_append_drop]
  obtain ⟨z, e2⟩ := e2
  rw [e1, e2, List.reverse_append]
  rw [(cp_pre _ z.reverse).1, List.length_reverse]
  unfold cut
  simp

theorem levF_run (P : PriceOk s) (x r y : List Nat) (mc : Int) : levF s (x ++ y) (x ++ (r ++ y)) mc = L s (x ++ y) (x ++ (r ++ y)) ∧ levF s (x ++ (r ++ y)) (x ++ y) mc = L s (x ++ (r ++ y)) (x ++ y) := by
  have key := run_cut x r y
  constructor
  · unfold levF
    split
    · rename_i h; rw [← h, L_refl P]; rfl
    · have e := L_cut P ((x ++ y).drop (cp (x ++ y) (x ++ (r ++ y)))) ((x ++ (r ++ y)).drop (cp (x ++ y) (x ++ (r ++ y))))
      rw [L_drop P] at e
      unfold levS
      rw [if_pos (.inl key)]
      rw [key] at e ⊢
      rw [L_nil_l] at e
      rw [← e]; simp
  · unfold levF
    split
    · rename_i h; rw [h, L_refl P]; rfl
    · rw [cp_comm (x ++ (r ++ y)) (x ++ y), cp_comm ((x ++ (r ++ y)).drop _).reverse]
      have e := L_cut P ((x ++ y).drop (cp (x ++ y) (x ++ (r ++ y)))) ((x ++ (r ++ y)).drop (cp (x ++ y) (x ++ (r ++ y))))
      rw [L_drop P] at e
      unfold levS
      rw [if_pos (.inr key)]
      rw [key] at e ⊢
      rw [L_nil_l] at e
      rw [L_symm P (x ++ (r ++ y)), ← e]; simp
end

end Mine

end

section
open PySem PySem.W PyProof.Rows
set_option Elab.async false
namespace Mine

/-- names written out, before others -/
noncomputable def mkJ (J : PE) : List (Str × D) → PE
  | [] => J
  | (x, d) :: r => fun y => if y = x then some d else mkJ J r y
noncomputable def nil0 : PE := fun _ => none
noncomputable abbrev mkP : List (Str × D) → PE := mkJ nil0
noncomputable def mkO : List (Str × OD) → Str → Option OD
  | [] => fun _ => none
  | (x, d) :: r => fun y => if y = x then some d else mkO r y
noncomputable def stOf (l : List (Str × D)) (o : List (Str × OD)) (J : PE := nil0) : St := ⟨mkJ J l, mkO o⟩
noncomputable def setL {α : Type} (x : Str) (d : α) : List (Str × α) → List (Str × α)
  | [] => [(x, d)]
  | (y, e) :: r => if y = x then (x, d) :: r else (y, e) :: setL x d r
noncomputable def delL {α : Type} (x : Str) : List (Str × α) → List (Str × α)
  | [] => []
  | (y, e) :: r => if y = x then delL x r else (y, e) :: delL x r
noncomputable def hide (x : Str) (J : PE) : PE := fun y => if y = x then none else J y
theorem mkJ_app (J : PE) : ∀ (l l' : List (Str × D)), mkJ J (l ++ l') = mkJ (mkJ J l') l
  | [], _ => rfl
  | (x, d) :: r, l' => by funext y; simp only [List.cons_append, mkJ, mkJ_app J r l']
theorem mkP_set (J : PE) (x : Str) (d : D) : ∀ l, mkJ J (setL x d l) = upd (mkJ J l) x d
  | [] => rfl
  | (y, e) :: r => by
    funext z
    unfold setL
    split
    · rename_i h; subst h
      simp only [mkJ, upd]
      split <;> rfl
    · rename_i h
      simp only [mkJ, upd, mkP_set J x d r]
      split
      · rename_i q; subst q; rw [if_neg h]
      · rfl
theorem mkO_set (x : Str) (d : OD) : ∀ l, mkO (setL x d l) = fun y => if y = x then some d else mkO l y
  | [] => rfl
  | (y, e) :: r => by
    funext z
    unfold setL
    split
    · rename_i h; subst h
      simp only [mkO]
      split <;> rfl
    · rename_i h
      simp only [mkO, mkO_set x d r]
      split
      · rename_i q; subst q; rw [if_neg h]
      · rfl
theorem mkP_del (J : PE) (x : Str) : ∀ l, mkJ (hide x J) (delL x l) = fun y => if y = x then none else mkJ J l y
  | [] => by funext z; simp [delL, mkJ, hide]
  | (y, e) :: r => by
    funext z
    unfold delL
    split
    · rename_i h; subst h
      simp only [mkP_del J y r, mkJ]
      split
      · rfl
      · rfl
    · rename_i h
      simp only [mkJ, mkP_del J x r]
      split
      · rename_i q; subst q; rw [if_neg h]
      · rfl
theorem mkO_del (x : Str) : ∀ l, mkO (delL x l) = fun y => if y = x then none else mkO l y
  | [] => by funext z; simp [delL, mkO]
  | (y, e) :: r => by
    funext z
    unfold delL
    split
    · rename_i h; subst h
      simp only [mkO_del y r, mkO]
      split
      · rfl
      · rfl
    · rename_i h
      simp only [mkO, mkO_del x r]
      split
      · rename_i q; subst q; rw [if_neg h]
      · rfl

theorem stOf_app (J : PE) (l l' : List (Str × D)) (o : List (Str × OD)) : stOf (l ++ l') o J = stOf l o (mkJ J l') := by
  unfold stOf; rw [mkJ_app]
theorem stOf_set (J : PE) (l : List (Str × D)) (o : List (Str × OD)) (x : Str) (d : D) : (stOf l o J).set x d = stOf (setL x d l) (delL x o) J := by
  unfold St.set stOf; rw [mkP_set, mkO_del]
theorem stOf_own (J : PE) (l : List (Str × D)) (o : List (Str × OD)) (x : Str) (d : OD) : (stOf l o J).own x d = stOf (delL x l) (setL x d o) (hide x J) := by
  unfold St.own stOf; rw [mkP_del, mkO_set]
noncomputable def WP (r : Option (Option D × St)) (Q : Option D → St → Prop) : Prop := ∃ o st, r = some (o, st) ∧ Q o st

section
variable {C : Cx} {n K : Nat} {sc : Scope} {st st' : St} {s : Stmt} {r : List Stmt} {Q : Option D → St → Prop} {d : D} {l l' : List (Str × D)} {o o' : List (Str × OD)} {x : Str} {J : PE}

/-- what stands behind a statement -/
noncomputable def Nx (C : Cx) (n : Nat) (sc : Scope) (r : List Stmt) (Q : Option D → St → Prop) : Option D → St → Prop := fun o st' => match o with
  | none => WP (exs C n sc st' r) Q
  | some d => Q (some d) st'

theorem WP.mono {r : Option (Option D × St)} {Q Q' : Option D → St → Prop} (h : WP r Q) (hq : ∀ o st, Q o st → Q' o st) : WP r Q' := let ⟨o, st, e, q⟩ := h; ⟨o, st, e, hq o st q⟩
theorem exs_cons : exs C (n + 1) sc st (s :: r) = (ex C n sc st s).bind fun p => match p.1 with | none => exs C n sc p.2 r | some d => some (some d, p.2) := rfl
theorem ex_if {t : Expr} {b o : List Stmt} {p : Pos} : ex C (n + 1) sc st (.If t b o p) = ((ev C n sc st.all t).bind truth).bind fun c => if c = true then exs C n sc st b else exs C n sc st o := rfl
theorem exw_eq {t : Expr} {b : List Stmt} : exw C (n + 1) sc st t b = ((ev C n sc st.all t).bind truth).bind fun c => if c = true then (exs C n sc st b).bind fun p => match p.1 with
      | none => exw C n sc p.2 t b
      | some d => some (some d, p.2)
    else some (none, st) := rfl
theorem exf_cons {t : Expr} {b : List Stmt} {d : D} {l : List D} : exf C (n + 1) sc st t b (d :: l) = (bindS t d st).bind fun st' => (exs C n sc st' b).bind fun p => match p.1 with
      | none => exf C n sc p.2 t b l
      | some d => some (some d, p.2) := rfl
theorem wp_nil (h : Q none st) : WP (exs C (n + 1) sc st []) Q := ⟨none, st, rfl, h⟩
theorem wp_cons (h : WP (ex C n sc st s) (Nx C n sc r Q)) : WP (exs C (n + 1) sc st (s :: r)) Q := by
  obtain ⟨o, st', e, q⟩ := h
  cases o with
  | none =>
    obtain ⟨o, st'', e', q'⟩ := q
    exact ⟨o, st'', by rw [exs_cons, e]; exact e', q'⟩
  | some d => exact ⟨some d, st', by rw [exs_cons, e]; rfl, q⟩
theorem wp_set (x : Str) (d : D) (l' : List (Str × D)) (o' : List (Str × OD)) (e : ex C n sc (stOf l o J) s = some (none, (stOf l o J).set x d)) (hl : setL x d l = l') (ho : delL x o = o') (h : WP (exs C n sc (stOf l' o' J) r) Q) : WP (exs C (n + 1) sc (stOf l o J) (s :: r)) Q := by
  refine wp_cons ⟨none, _, e, ?_⟩
  rw [stOf_set, hl, ho]; exact h
theorem wp_own (x : Str) (d : OD) (l' : List (Str × D)) (o' : List (Str × OD)) (e : ex C n sc (stOf l o J) s = some (none, (stOf l o J).own x d)) (hl : delL x l = l') (ho : setL x d o = o') (h : WP (exs C n sc (stOf l' o' (hide x J)) r) Q) : WP (exs C (n + 1) sc (stOf l o J) (s :: r)) Q := by
  refine wp_cons ⟨none, _, e, ?_⟩
  rw [stOf_own, hl, ho]; exact h
theorem wp_end (e : ex C n sc st s = some (some d, st')) (h : Q (some d) st') : WP (exs C (n + 1) sc st (s :: r)) Q := wp_cons ⟨some d, st', e, h⟩
theorem wp_ret (d : D) {e : Expr} {p : Pos} (he : ev C n sc st.all e = some d) (h : Q (some d) st) : WP (exs C (n + 2) sc st (.Return (some e) p :: r)) Q := wp_end (by show (ev C n sc st.all e).map (fun d => (some d, st)) = _; rw [he]; rfl) h
theorem wp_if (c : Bool) {t : Expr} {b o : List Stmt} {p : Pos} (e : (ev C n sc st.all t).bind truth = some c)
    (ht : c = true → WP (exs C n sc st b) (Nx C (n + 1) sc r Q)) (hf : c = false → WP (exs C n sc st o) (Nx C (n + 1) sc r Q)) : WP (exs C (n + 2) sc st (.If t b o p :: r)) Q := by
  refine wp_cons ?_
  rw [ex_if, e]
  cases c with
  | true => exact ht rfl
  | false => exact hf rfl
theorem wp_if0 (c : Bool) {t : Expr} {b : List Stmt} {p : Pos} (e : (ev C (n + 1) sc st.all t).bind truth = some c)
    (ht : c = true → WP (exs C (n + 1) sc st b) (Nx C (n + 2) sc r Q)) (hf : c = false → WP (exs C (n + 2) sc st r) Q) : WP (exs C (n + 3) sc st (.If t b [] p :: r)) Q :=
  wp_if c e ht fun h => wp_nil (hf h)
theorem wp_while {t : Expr} {b : List Stmt} {p : Pos} (h : WP (exw C n sc st t b) (Nx C (n + 1) sc r Q)) : WP (exs C (n + 2) sc st (.While t b [] p :: r)) Q := wp_cons h
theorem wp_for (l : List D) {t i : Expr} {b : List Stmt} {p : Pos} (e : ex C (n + 1) sc st (.For t i b [] p) = exf C n sc st t b l) (h : WP (exf C n sc st t b l) (Nx C (n + 1) sc r Q)) : WP (exs C (n + 2) sc st (.For t i b [] p :: r)) Q :=
  wp_cons (by rw [e]; exact h)

theorem call_wp {xs : List Str} {body : List Stmt} {args : List D} (l : List (Str × D)) (hm : bindP xs args = some (mkP l)) (h : WP (exs C n sc (stOf l []) body) fun o _ => o.getD .none = d) : callF C n xs sc body args = some d := by
  obtain ⟨o, st, e, q⟩ := h
  unfold callF
  rw [hm]
  dsimp only
  have e : exs C n sc ⟨mkP l, fun _ => none⟩ body = some (o, st) := e
  rw [e]
  cases o with
  | none => exact congrArg some q
  | some d' => exact congrArg some q

/-- a while by an invariant and a count -/
theorem wp_exw {t : Expr} {b : List Stmt} (I : Nat → St → Prop)
    (step : ∀ k m st, I k st → ∃ c, (ev C (m + K) sc st.all t).bind truth = some c ∧ (c = false → Q none st) ∧ (c = true → WP (exs C (m + K) sc st b) fun o st' => match o with
      | none => ∃ k', k = k' + 1 ∧ I k' st'
      | some d => Q (some d) st')) : ∀ k m st, I k st → WP (exw C (m + k + (K + 1)) sc st t b) Q := by
  intro k
  induction k with
  | zero =>
    intro m st hI
    obtain ⟨c, h1, h2, h3⟩ := step 0 m st hI
    show WP (exw C (m + K + 1) sc st t b) Q
    rw [exw_eq, h1]
    cases c with
    | false => exact ⟨none, st, rfl, h2 rfl⟩
    | true =>
      obtain ⟨o, st', e, q⟩ := h3 rfl
      rw [Option.bind_some, if_pos rfl, e]
      cases o with
      | none => obtain ⟨k', hk, _⟩ := q; omega
      | some d => exact ⟨some d, st', rfl, q⟩
  | succ k ih =>
    intro m st hI
    obtain ⟨c, h1, h2, h3⟩ := step (k + 1) (m + (k + 1)) st hI
    show WP (exw C (m + (k + 1) + K + 1) sc st t b) Q
    rw [exw_eq, h1]
    cases c with
    | false => exact ⟨none, st, rfl, h2 rfl⟩
    | true =>
      obtain ⟨o, st', e, q⟩ := h3 rfl
      rw [Option.bind_some, if_pos rfl, e]
      cases o with
      | none =>
        obtain ⟨k', hk, hI'⟩ := q
        obtain rfl : k' = k := by omega
        have := ih m st' hI'
        rwa [show m + k' + (K + 1) = m + (k' + 1) + K by omega] at this
      | some d => exact ⟨some d, st', rfl, q⟩

/-- a for by an invariant over what is left -/
theorem wp_exf {t : Expr} {b : List Stmt} (I : List D → St → Prop)
    (step : ∀ d rest m st, I (d :: rest) st → ∃ st', bindS t d st = some st' ∧ WP (exs C (m + K) sc st' b) fun o st'' => match o with
      | none => I rest st''
      | some x => Q (some x) st'') (done : ∀ st, I [] st → Q none st) : ∀ l m st, I l st → WP (exf C (m + l.length + (K + 1)) sc st t b l) Q := by
  intro l
  induction l with
  | nil =>
    intro m st hI
    show WP (exf C (m + K + 1) sc st t b []) Q
    exact ⟨none, st, rfl, done st hI⟩
  | cons d rest ih =>
    intro m st hI
    obtain ⟨st', h1, h2⟩ := step d rest (m + (rest.length + 1)) st hI
    show WP (exf C (m + (rest.length + 1) + K + 1) sc st t b (d :: rest)) Q
    rw [exf_cons, h1]
    obtain ⟨o, st'', e, q⟩ := h2
    rw [Option.bind_some, e]
    cases o with
    | none =>
      have := ih m st'' q
      rwa [show m + rest.length + (K + 1) = m + (rest.length + 1) + K by omega] at this
    | some x => exact ⟨some x, st'', rfl, q⟩

theorem bind1 {t : Expr} (x : Str) (e : bindS t d (stOf l o J) = some ((stOf l o J).set x d)) (hl : setL x d l = l') (ho : delL x o = o') : bindS t d (stOf l o J) = some (stOf l' o' J) := by
  rw [e, stOf_set, hl, ho]
end

/-- a text by its signs' numbers -/
noncomputable def strL (l : List Nat) : Str := ⟨l.toArray⟩
theorem strL_inj {a b : List Nat} (h : strL a = strL b) : a = b := by
  have := congrArg (fun s : Str => s.cps.toList) h
  exact this
theorem strL_len (l : List Nat) : (strL l).length = l.length := rfl
theorem strL_beq (a b : List Nat) : (strL a == strL b) = decide (a = b) := by
  by_cases h : a = b
  · subst h; simp
  · rw [decide_eq_false h]
    simp only [beq_eq_false_iff_ne, ne_eq]
    exact fun e => h (strL_inj e)

end Mine

end

section
open PySem PySem.W PyProof.Rows
set_option Elab.async false
namespace Mine

noncomputable def clipN (n : Nat) (v : Option Int) (dflt : Nat) : Nat := match v with
  | none => dflt
  | some i => (max 0 (min (if i < 0 then i + n else i) n)).toNat

theorem clamp_nat (k n : Nat) : (max 0 (min (k : Int) (n : Int))).toNat = min k n := by
  rcases Nat.le_total k n with h | h
  · rw [Int.min_eq_left (Int.ofNat_le.mpr h), Int.max_eq_right (Int.natCast_nonneg k), Int.toNat_natCast, Nat.min_eq_left h]
  · rw [Int.min_eq_right (Int.ofNat_le.mpr h), Int.max_eq_right (Int.natCast_nonneg n), Int.toNat_natCast, Nat.min_eq_right h]
theorem clip_nat (n k d : Nat) : clipN n (some (k : Int)) d = min k n := by
  show (max 0 (min (if (k : Int) < 0 then (k : Int) + n else k) n)).toNat = _
  rw [if_neg (Int.not_lt.mpr (Int.natCast_nonneg k)), clamp_nat]
theorem clip_neg (n k d : Nat) (h : 0 < k) : clipN n (some (-(k : Int))) d = n - k := by
  show (max 0 (min (if -(k : Int) < 0 then -(k : Int) + n else -(k : Int)) n)).toNat = _
  rw [if_pos (Int.neg_neg_of_pos (Int.ofNat_lt.mpr h)), Int.add_comm, ← Int.sub_eq_add_neg, Int.min_eq_left (Int.sub_le_self _ (Int.natCast_nonneg k))]
  rcases Nat.le_total k n with g | g
  · rw [← Int.ofNat_sub g, Int.max_eq_right (Int.natCast_nonneg _), Int.toNat_natCast]
  · rw [Int.max_eq_left (Int.sub_nonpos_of_le (Int.ofNat_le.mpr g)), Nat.sub_eq_zero_of_le g]; rfl
theorem clip_val (n : Nat) (v : Option Int) (d : Nat) : (match v with | none => (d : Int) | some i => max 0 (min (if i < 0 then i + (n : Int) else i) n)) = (clipN n v d : Int) := by
  cases v with
  | none => rfl
  | some i => exact (Int.toNat_of_nonneg (Int.le_max_left _ _)).symm
theorem clip_le (n : Nat) (v : Option Int) (d : Nat) (h : d ≤ n) : clipN n v d ≤ n := by
  cases v with
  | none => exact h
  | some i => exact Int.toNat_le.mpr (Int.max_le.mpr ⟨Int.natCast_nonneg n, Int.min_le_right _ _⟩)

section
variable {α : Type}
theorem range_one (a b : Nat) : sliceRange (a : Int) (b : Int) 1 = (List.range (b - a)).map fun k => a + k := by
  unfold sliceRange
  rw [if_pos (by decide)]
  by_cases h : (a : Int) < b
  · rw [if_pos h, Int.add_sub_cancel, Int.ediv_one, ← Int.ofNat_sub (Nat.le_of_lt (Int.ofNat_lt.mp h))]
    show List.map _ (List.range (b - a)) = _
    refine List.map_congr_left fun k _ => ?_
    rw [Int.one_mul]; rfl
  · rw [if_neg h, Nat.sub_eq_zero_of_le (Int.ofNat_le.mp (Int.not_lt.mp h))]; rfl
theorem slice_idx (lo hi : Option Int) (n : Nat) : Builtin.Str.strSliceIndices lo hi 1 n = (List.range (clipN n hi n - clipN n lo 0)).map fun k => clipN n lo 0 + k := by
  rw [← range_one, ← clip_val n lo 0, ← clip_val n hi n]
  cases lo <;> cases hi <;> rfl

theorem cutL_one (l : List α) (lo hi : Option Int) : cutL l lo hi 1 = (l.drop (clipN l.length lo 0)).take (clipN l.length hi l.length - clipN l.length lo 0) := by
  unfold cutL
  rw [slice_idx]
  have h1 := clip_le l.length hi l.length (Nat.le_refl _)
  by_cases h : clipN l.length lo 0 ≤ clipN l.length hi l.length
  · exact StrLaws.picks l _ _ (by rw [Nat.add_sub_cancel' h]; exact h1)
  · rw [Nat.sub_eq_zero_of_le (Nat.le_of_not_le h)]; rfl

theorem drop_min (l : List α) (k : Nat) : l.drop (min k l.length) = l.drop k := by
  rcases Nat.le_total k l.length with h | h
  · rw [Nat.min_eq_left h]
  · rw [Nat.min_eq_right h, List.drop_of_length_le h, List.drop_length]
theorem cut_from (l : List α) (k : Nat) : cutL l (some (k : Int)) none 1 = l.drop k := by
  rw [cutL_one, clip_nat, drop_min]
  exact List.take_of_length_le (by rw [List.length_drop]; exact Nat.sub_le_sub_left (Nat.min_le_left _ _) _)
theorem cut_upto (l : List α) (k : Nat) : cutL l none (some (k : Int)) 1 = l.take k := by
  rw [cutL_one, clip_nat]
  show (l.drop 0).take (min k l.length - 0) = _
  rw [List.drop_zero, Nat.sub_zero, ← List.take_take, List.take_length]
theorem cut_less (l : List α) (k : Nat) (h : 0 < k) : cutL l none (some (-(k : Int))) 1 = l.take (l.length - k) := by
  rw [cutL_one, clip_neg _ _ _ h]; rfl
theorem cut_all (l : List α) : cutL l none none 1 = l := by
  rw [cutL_one]; exact List.take_length
theorem cut_mid (l : List α) (i j : Nat) : cutL l (some (i : Int)) (some (j : Int)) 1 = (l.drop i).take (j - i) := by
  rw [cutL_one, clip_nat, clip_nat, drop_min]
  rcases Nat.le_total i l.length with h | h
  · rw [Nat.min_eq_left h]
    rcases Nat.le_total j l.length with g | g
    · rw [Nat.min_eq_left g]
    · rw [Nat.min_eq_right g, List.take_of_length_le (by rw [List.length_drop]; exact Nat.le_refl _), List.take_of_length_le (by rw [List.length_drop]; exact Nat.sub_le_sub_right g _)]
  · rw [List.drop_of_length_le h, List.take_nil, List.take_nil]
end

theorem idx_nat {l i : Nat} (h : i < l) : idxD l (i : Int) = some i := by
  show (if 0 ≤ (if (i : Int) < 0 then (i : Int) + l else i) ∧ (if (i : Int) < 0 then (i : Int) + l else i) < l then some (if (i : Int) < 0 then (i : Int) + l else i).toNat else none) = _
  rw [if_neg (Int.not_lt.mpr (Int.natCast_nonneg i)), if_pos ⟨Int.natCast_nonneg i, Int.ofNat_lt.mpr h⟩]; rfl
theorem idx_neg {l k : Nat} (h0 : 0 < k) (h : k ≤ l) : idxD l (-(k : Int)) = some (l - k) := by
  have e : -(k : Int) + l = ((l - k : Nat) : Int) := by rw [Int.ofNat_sub h, Int.add_comm, Int.sub_eq_add_neg]
  show (if 0 ≤ (if -(k : Int) < 0 then -(k : Int) + l else -(k : Int)) ∧ (if -(k : Int) < 0 then -(k : Int) + l else -(k : Int)) < l then some (if -(k : Int) < 0 then -(k : Int) + l else -(k : Int)).toNat else none) = _
  rw [if_pos (Int.neg_neg_of_pos (Int.ofNat_lt.mpr h0)), e, if_pos ⟨Int.natCast_nonneg _, Int.ofNat_lt.mpr (Nat.sub_lt (Nat.lt_of_lt_of_le h0 h) h0)⟩]; rfl
theorem item_str (l : List Nat) (i : Int) {j c : Nat} (h : idxD l.length i = some j) (hc : l[j]? = some c) : itemD (.str (strL l)) (.int i) = some (.str (strL [c])) := by
  show ((idxD l.length i).bind fun j => ((strL l).cps[j]?).map fun c => D.str ⟨#[c]⟩) = _
  rw [h]
  show ((strL l).cps[j]?).map _ = _
  rw [show (strL l).cps[j]? = some c by simpa [strL] using hc]
  rfl
theorem rangeL_nat (n : Nat) : rangeL 0 (n : Int) 1 = (List.range n).map fun (i : Nat) => (i : Int) := by
  have e : rangeLen 0 (n : Int) 1 = n := by
    unfold rangeLen Builtin.Range.rangeSize
    rw [if_pos (by decide)]
    by_cases h : (0 : Int) < n
    · rw [if_pos h, Int.sub_zero, Int.ediv_one, Int.sub_add_cancel]; rfl
    · rw [if_neg h]; exact (Int.ofNat_le.mp (Int.not_lt.mp h) |> Nat.le_zero.mp).symm
  unfold rangeL
  rw [e]
  exact List.map_congr_left fun i _ => by rw [Int.zero_add, Int.mul_one]
theorem rOk_nat {n : Nat} (h : n ≤ 100000) : rOk 0 (n : Int) 1 = true := by
  exact decide_eq_true ⟨by decide, Nat.le_trans h (by decide), by decide, by decide⟩
section
variable {C : Cx} {n : Nat} {sc : Scope} {st : St} {m : PE} {f : Expr → Option D} {r : List Stmt} {Q : Option D → St → Prop} {d : D} {l l' : List (Str × D)} {o o' : List (Str × OD)} {J : PE}

theorem and_cons {e e' : Expr} {es : List Expr} {t u : Bool} (h : (f e).bind truth = some t) (h' : t = true → (boolG .And f (e' :: es)).bind truth = some u) : (boolG .And f (e :: e' :: es)).bind truth = some (t && u) := by
  unfold boolG
  cases hd : f e with
  | none => rw [hd] at h; cases h
  | some d =>
    rw [hd] at h
    have h : truth d = some t := h
    dsimp only
    rw [h]
    cases t with
    | false => exact h
    | true => exact h' rfl
theorem or_cons {e e' : Expr} {es : List Expr} {t u : Bool} (h : (f e).bind truth = some t) (h' : t = false → (boolG .Or f (e' :: es)).bind truth = some u) : (boolG .Or f (e :: e' :: es)).bind truth = some (t || u) := by
  unfold boolG
  cases hd : f e with
  | none => rw [hd] at h; cases h
  | some d =>
    rw [hd] at h
    have h : truth d = some t := h
    dsimp only
    rw [h]
    cases t with
    | true => exact h
    | false => exact h' rfl

theorem evF_of {e : Expr} {l : List D} (h1 : isFresh e = true) (h2 : ev C n sc st.all e = some (.list l)) (h3 : flat l = true) : evF C n sc st e = some l := by
  unfold evF
  rw [if_pos h1, h2]
  dsimp only
  rw [if_pos h3]
theorem ints_flat (l : List Int) : flat (l.map .int) = true := by
  unfold flat
  rw [List.all_eq_true]
  intro x hx
  obtain ⟨i, _, rfl⟩ := List.mem_map.mp hx
  rfl
theorem ex_set {st : St} {x : Str} {np p : Pos} {e : Expr} : ex C (n + 1) sc st (.Assign [.Name x np] e p) = (if storeOk sc x = true then
      (if C.hint p.line = .own then (evF C n sc (if C.hint p.line = .freeze then st.frozen else st) e).map fun l => ((none : Option D), (if C.hint p.line = .freeze then st.frozen else st).own x (.one l))
       else if C.hint p.line = .own2 then (evF2 C n sc (if C.hint p.line = .freeze then st.frozen else st) e).map fun l => (none, (if C.hint p.line = .freeze then st.frozen else st).own x (.two l))
       else (evK C n sc (if C.hint p.line = .freeze then st.frozen else st) (C.hint p.line) e).map fun d => (none, (if C.hint p.line = .freeze then st.frozen else st).set x d)) else none) := rfl
theorem wp_own1 (x : Str) (ld : List D) (l' : List (Str × D)) (o' : List (Str × OD)) {np p : Pos} {e : Expr} (hs : storeOk sc x = true) (hh : C.hint p.line = .own) (he : evF C n sc (stOf l o J) e = some ld)
    (hl : delL x l = l') (ho : setL x (.one ld) o = o') (h : WP (exs C (n + 1) sc (stOf l' o' (hide x J)) r) Q) : WP (exs C (n + 2) sc (stOf l o J) (.Assign [.Name x np] e p :: r)) Q := by
  refine wp_own x (.one ld) l' o' ?_ hl ho h
  rw [ex_set, if_pos hs, if_pos hh, if_neg (by rw [hh]; decide), he]; rfl
theorem wp_set1 (x : Str) (d : D) (l' : List (Str × D)) (o' : List (Str × OD)) {np p : Pos} {e : Expr} (hs : storeOk sc x = true) (hh : C.hint p.line = .plain) (he : ev C n sc (mkJ J l) e = some d)
    (hl : setL x d l = l') (ho : delL x o = o') (h : WP (exs C (n + 1) sc (stOf l' o' J) r) Q) : WP (exs C (n + 2) sc (stOf l o J) (.Assign [.Name x np] e p :: r)) Q := by
  refine wp_set x d l' o' ?_ hl ho h
  have he' : evK C n sc (stOf l o J) .plain e = some d := he
  rw [ex_set, if_pos hs, hh, if_neg (by decide), if_neg (by decide), if_neg (by decide), he']; rfl
theorem wp_rel1 (x : Str) (d : D) (l' : List (Str × D)) (o' : List (Str × OD)) {np p : Pos} {e : Expr} (hs : storeOk sc x = true) (hh : C.hint p.line = .relaxed) (he : ev C n sc (stOf l o J).all e = some d) (hd : scalar d = true)
    (hl : setL x d l = l') (ho : delL x o = o') (h : WP (exs C (n + 1) sc (stOf l' o' J) r) Q) : WP (exs C (n + 2) sc (stOf l o J) (.Assign [.Name x np] e p :: r)) Q := by
  refine wp_set x d l' o' ?_ hl ho h
  have he' : evK C n sc (stOf l o J) .relaxed e = some d := by
    show (ev C n sc (stOf l o J).all e).bind (fun d => if scalar d = true then some d else none) = _
    rw [he, Option.bind_some, if_pos hd]
  rw [ex_set, if_pos hs, hh, if_neg (by decide), if_neg (by decide), if_neg (by decide), he']; rfl
theorem wp_two (x y : Str) (d : D) (l' : List (Str × D)) (o' : List (Str × OD)) {np nq p : Pos} {e : Expr} (hx : storeOk sc x = true) (hy : storeOk sc y = true) (hne : x ≠ y) (he : ev C n sc (stOf l o J).all e = some d) (hd : scalar d = true)
    (hl : setL y d (setL x d l) = l') (ho : delL y (delL x o) = o') (h : WP (exs C (n + 1) sc (stOf l' o' J) r) Q) : WP (exs C (n + 2) sc (stOf l o J) (.Assign [.Name x np, .Name y nq] e p :: r)) Q := by
  refine wp_cons ⟨none, stOf l' o' J, ?_, h⟩
  have he' : evK C n sc (stOf l o J) .relaxed e = some d := by
    show (ev C n sc (stOf l o J).all e).bind (fun d => if scalar d = true then some d else none) = _
    rw [he, Option.bind_some, if_pos hd]
  show (if storeOk sc x = true ∧ storeOk sc y = true ∧ x ≠ y then (evK C n sc (stOf l o J) .relaxed e).map fun d => ((none : Option D), ((stOf l o J).set x d).set y d) else none) = _
  rw [if_pos ⟨hx, hy, hne⟩, he', Option.map_some]
  rw [stOf_set, stOf_set, hl, ho]
theorem mul_two (a : Int) : binD .Mult (.int a) (.int 2) = some (.int (a * 2)) := by
  show (if (smallI a || smallI 2) = true then some (D.int (a * 2)) else none) = _
  rw [if_pos (by rw [show smallI 2 = true by decide, Bool.or_true])]
theorem wp_sub (x : Str) (ld ld' : List D) (i : Int) (d : D) (o' : List (Str × OD)) {np sp p : Pos} {e j : Expr} (hx : mkO o x = some (.one ld)) (hh : C.hint p.line = .plain) (hj : ev C n sc (stOf l o J).all j = some (.int i)) (he : ev C n sc (mkJ J l) e = some d) (hl' : setD ld i d = some ld')
    (hl : delL x l = l) (ho : setL x (.one ld') o = o') (h : WP (exs C (n + 1) sc (stOf l o' (hide x J)) r) Q) : WP (exs C (n + 2) sc (stOf l o J) (.Assign [.Subscript (.Name x np) j sp] e p :: r)) Q := by
  refine wp_own x (.one ld') l o' ?_ hl ho h
  have hx' : (stOf l o J).o x = some (.one ld) := hx
  have he' : evK C n sc (stOf l o J) .plain e = some d := he
  show ((((if C.hint p.line = .freeze then (stOf l o J).frozen else stOf l o J).o x).bind asOne).bind fun ld => ((ev C n sc (if C.hint p.line = .freeze then (stOf l o J).frozen else stOf l o J).all j).bind asInt).bind fun i =>
    (evK C n sc (if C.hint p.line = .freeze then (stOf l o J).frozen else stOf l o J) (C.hint p.line) e).bind fun d => (setD ld i d).map fun l' => ((none : Option D), (if C.hint p.line = .freeze then (stOf l o J).frozen else stOf l o J).own x (.one l'))) = _
  rw [hh, if_neg (by decide), hx', hj, he']
  show (setD ld i d).map _ = _
  rw [hl']; rfl
theorem wp_for1 (ds : List D) {t i : Expr} {b : List Stmt} {p : Pos} (hh : C.hint p.line = .plain) (ht : targetOk sc t = true) (hi : itE C n sc st.m i = some ds) (h : WP (exf C n sc st t b ds) (Nx C (n + 1) sc r Q)) : WP (exs C (n + 2) sc st (.For t i b [] p :: r)) Q := by
  refine wp_for ds ?_ h
  show (if (true && targetOk sc t) = true then (itE C n sc (if C.hint p.line = .freeze then st.frozen else st).m i).bind fun l => exf C n sc (if C.hint p.line = .freeze then st.frozen else st) t b l else none) = _
  rw [hh, Bool.true_and, if_pos ht, if_neg (by decide), hi]; rfl
end

noncomputable def bind2 (x y : Option D) (f : D → D → Option D) : Option D := x.bind fun a => y.bind fun b => f a b

theorem hide_keep (x : Str) (J : PE) : ∀ l : List (Str × D), (l.all fun p => decide (p.1 ≠ x)) = true → hide x (mkJ (hide x J) l) = mkJ (hide x J) l
  | [], _ => by funext y; simp only [mkJ, hide]; split <;> rfl
  | (y, d) :: r, h => by
    simp only [List.all_cons, Bool.and_eq_true, decide_eq_true_eq] at h
    have ih := hide_keep x J r h.2
    funext z
    have ih := congrFun ih z
    simp only [mkJ, hide] at ih ⊢
    split
    · rename_i q; subst q
      rw [if_neg (Ne.symm h.1)]
      rw [if_pos rfl] at ih
      exact ih
    · rfl
noncomputable def mapI (l : List (Option D)) : Option (List D) := mapMD (fun x => x) l
theorem setD_at (l1 l2 : List Nat) (r v : Nat) : setD ((l1 ++ r :: l2).map fun (n : Nat) => D.int n) (l1.length : Int) (.int v) = some ((l1 ++ v :: l2).map fun (n : Nat) => D.int n) := by
  unfold setD
  rw [idx_nat (by simp)]
  simp
theorem item_at (l1 l2 : List Nat) (r : Nat) : itemD (.list ((l1 ++ r :: l2).map fun (n : Nat) => D.int n)) (.int (l1.length : Int)) = some (.int r) := by
  show (idxD _ _).bind _ = _
  rw [idx_nat (by simp)]
  simp

theorem getElem_drop {α : Type} {a : List α} {p : Nat} {x : α} {t : List α} (h : a.drop p = x :: t) : p < a.length ∧ a[p]? = some x ∧ t = a.drop (p + 1) := by
  have h1 : a[p]? = some x := by
    have := congrArg (fun l => l[0]?) h
    simpa [List.getElem?_drop] using this
  refine ⟨(List.getElem?_eq_some_iff.mp h1).1, h1, ?_⟩
  have := congrArg List.tail h
  simpa [List.tail_drop] using this.symm

end Mine

end

section
open PySem PySem.W PyProof.Rows
set_option Elab.async false
namespace Mine

/-- one turn of a comprehension with one clause -/
noncomputable def compT (C : Cx) (n : Nat) (sc scope : Scope) (m : PE) (elt t : Expr) (ifs : List Expr) (d : D) : Option (List D) :=
  match bindT t d m with
  | none => none
  | some m' => match testsG (ev C n (relabelS scope sc) m') ifs with
    | none => none
    | some false => some []
    | some true => (ev C n (relabelS scope sc) m' elt).map fun d => [d]
/-- one turn of the first clause of two -/
noncomputable def compT2 (C : Cx) (n : Nat) (sc scope : Scope) (m : PE) (elt t : Expr) (g : Comprehension) (d : D) : Option (List D) :=
  match bindT t d m with
  | none => none
  | some m' => match itE C n (relabelS scope sc) m' g.iter with
    | none => none
    | some l' => (gensG (ev C n (relabelS scope sc)) (itE C n (relabelS scope sc)) scope (fun m' => (ev C n (relabelS scope sc) m' elt).map fun d => [d]) [g] m' l').map List.flatten

theorem mapMD_ok {α β : Type} {f : α → Option β} {g : α → β} : ∀ {l : List α}, (∀ x ∈ l, f x = some (g x)) → mapMD f l = some (l.map g)
  | [], _ => rfl
  | x :: r, h => by
    unfold mapMD
    rw [h x List.mem_cons_self, mapMD_ok fun y hy => h y (List.mem_cons_of_mem _ hy)]
    rfl

section
variable {C : Cx} {n : Nat} {sc : Scope} {m : PE} {elt t it : Expr} {scope : Scope} {p : Pos} {ifs : List Expr}
theorem ev_lc {g : Comprehension} {gs : List Comprehension} : ev C (n + 1) sc m (.ListComp elt (g :: gs) scope p) = if scopeOk scope sc = true then (itE C n sc m g.iter).bind fun l =>
    (gensG (ev C n (relabelS scope sc)) (itE C n (relabelS scope sc)) scope (fun m' => (ev C n (relabelS scope sc) m' elt).map fun d => [d]) (g :: gs) (inner scope m) l).bind fun rs => mkL rs.flatten
  else none := rfl
end

theorem flat_one {α β : Type} (f : α → β) : ∀ l : List α, (l.map fun x => [f x]).flatten = l.map f
  | [] => rfl
  | x :: r => by simp [flat_one f r]

theorem intsOf_map (l : List Int) : intsOf (l.map .int) = some l := by
  induction l with
  | nil => rfl
  | cons x r ih => simp only [List.map_cons, intsOf, ih]; rfl
theorem strsOf_map (l : List Str) : strsOf (l.map .str) = some l := by
  induction l with
  | nil => rfl
  | cons x r ih => simp only [List.map_cons, strsOf, ih]; rfl
theorem strL_append (a b : List Nat) : strL a ++ strL b = strL (a ++ b) := by
  apply Str.ext'
  simp [strL, Str.cps_append]
theorem joinS_strL : ∀ l : List (List Nat), joinS (l.map strL) = strL l.flatten
  | [] => rfl
  | x :: r => by simp only [List.map_cons, joinS, List.flatten_cons, joinS_strL r, strL_append]

/-- texts glued -/
theorem join_ok (l : List (List Nat)) (h : l.flatten.length ≤ lim) : callM (.str Str.empty) (Str.ofString "join") [.list (l.map fun x => D.str (strL x))] = some (.str (strL l.flatten)) := by
  show (if Str.ofString "join" = Str.ofString "join" ∧ Str.empty.length = 0 then (strsOf (l.map fun x => D.str (strL x))).bind fun xs => mkS (joinS xs) else none) = _
  rw [if_pos ⟨rfl, rfl⟩]
  have e : (l.map fun x => D.str (strL x)) = (l.map strL).map .str := by rw [List.map_map]; rfl
  rw [e, strsOf_map]
  show mkS (joinS (l.map strL)) = _
  rw [joinS_strL]
  unfold mkS
  rw [strL_len, if_pos h]

/-- the least of ints -/
theorem minL_eq : ∀ (l : List Int) (a : Int), minL a l = l.foldl min a
  | [], _ => rfl
  | b :: r, a => by simp only [minL, List.foldl_cons, minL_eq r]
theorem min_ok (a : Int) (l : List Int) : callB (Str.ofString "min") [.list ((a :: l).map .int)] = some (.int (l.foldl min a)) := by
  show ((intsOf ((a :: l).map .int)).bind fun xs => (minI xs).map D.int) = _
  rw [intsOf_map]
  show some (D.int (minL a l)) = _
  rw [minL_eq]
theorem sum_ok (l : List Int) : callB (Str.ofString "sum") [.list (l.map .int)] = some (.int l.sum) := by
  show ((intsOf (l.map .int)).map fun xs => D.int xs.sum) = _
  rw [intsOf_map]; rfl


theorem mapMD_map {α β γ : Type} (φ : α → β) (f : β → Option γ) : ∀ l : List α, mapMD f (l.map φ) = mapMD (fun x => f (φ x)) l
  | [] => rfl
  | x :: r => by
    simp only [List.map_cons]
    rw [mapMD, mapMD, mapMD_map φ f r]

section
variable {C : Cx} {n : Nat} {sc : Scope} {m : PE} {elt t it : Expr} {scope : Scope} {p fp : Pos} {ifs args : List Expr} {f : Str} {ds : List D} {α : Type}

/-- one clause, the items told by their own data -/
theorem ev_comp {xs : List α} (φ : α → D) (g : α → List D) (hs : scopeOk scope sc = true) (hi : itE C n sc m it = some (xs.map φ)) (ht : (targetOk scope t && freshT (inner scope m) t) = true)
    (hg : ∀ x ∈ xs, compT C n sc scope (inner scope m) elt t ifs (φ x) = some (g x)) (hl : (xs.map g).flatten.length ≤ lim) : ev C (n + 1) sc m (.ListComp elt [⟨t, it, ifs, 0⟩] scope p) = some (.list (xs.map g).flatten) := by
  simp only [Bool.and_eq_true] at ht
  rw [ev_lc, if_pos hs, hi, Option.bind_some]
  unfold gensG
  rw [if_pos ⟨rfl, ht.1, ht.2⟩, mapMD_map, mapMD_ok (g := g)]
  · exact if_pos hl
  · exact hg
theorem ev_compE {xs : List α} (φ : α → D) (g : α → D) (hs : scopeOk scope sc = true) (hi : itE C n sc m it = some (xs.map φ)) (ht : (targetOk scope t && freshT (inner scope m) t) = true)
    (hg : ∀ x ∈ xs, compT C n sc scope (inner scope m) elt t ifs (φ x) = some [g x]) (hl : xs.length ≤ lim) : ev C (n + 1) sc m (.ListComp elt [⟨t, it, ifs, 0⟩] scope p) = some (.list (xs.map g)) := by
  have := ev_comp (C := C) (n := n) (sc := sc) (m := m) (elt := elt) (t := t) (it := it) (scope := scope) (p := p) (ifs := ifs) φ (fun x => [g x]) hs hi ht hg (by rw [flat_one]; simpa using hl)
  rwa [flat_one] at this

theorem compT_ok {d r : D} {m' : PE} (hb : bindT t d m = some m') (he : ev C n (relabelS scope sc) m' elt = some r) : compT C n sc scope m elt t [] d = some [r] := by
  unfold compT
  rw [hb]
  simp only [testsG]
  rw [he]; rfl

theorem compT_name (x : Str) {d r : D} (hb : bindT t d m = some (upd m x d)) (he : ev C n (relabelS scope sc) (upd m x d) elt = some r) : compT C n sc scope m elt t [] d = some [r] := compT_ok hb he

theorem ev_name : ev C (n + 1) sc m (.Call (.Name f fp) args [] p) = if kd sc f = some .globalImplicit then match C.fn.lookup f with
    | some F => (mapMD (ev C n sc m) args).bind F
    | none => if (C.gl.lookup f).isNone = true then
        if f = Str.ofString "isinstance" then (duo args).bind fun q => (asName q.2).bind fun t => if builtinFree C sc t = true then (ev C n sc m q.1).bind fun d => (typeD t d).map .bool else none
        else (mapMD (ev C n sc m) args).bind (callB f)
      else none
  else none := rfl
theorem ev_callB (hk : kd sc f = some .globalImplicit) (h1 : C.fn.lookup f = none) (h2 : (C.gl.lookup f).isNone = true) (h3 : f ≠ Str.ofString "isinstance") (hd : mapMD (ev C n sc m) args = some ds) :
    ev C (n + 1) sc m (.Call (.Name f fp) args [] p) = callB f ds := by
  rw [ev_name, if_pos hk, h1]
  show (if (C.gl.lookup f).isNone = true then _ else none) = _
  rw [if_pos h2, if_neg h3, hd]; rfl
theorem ev_callF {F : List D → Option D} (hk : kd sc f = some .globalImplicit) (h1 : C.fn.lookup f = some F) (hd : mapMD (ev C n sc m) args = some ds) :
    ev C (n + 1) sc m (.Call (.Name f fp) args [] p) = F ds := by
  rw [ev_name, if_pos hk, h1]
  show (mapMD (ev C n sc m) args).bind F = _
  rw [hd]; rfl
theorem map1 {e : Expr} {d : D} {g : Expr → Option D} (h : g e = some d) : mapMD g [e] = some [d] := by
  simp only [mapMD, h]
theorem map2 {e e' : Expr} {d d' : D} {g : Expr → Option D} (h : g e = some d) (h' : g e' = some d') : mapMD g [e, e'] = some [d, d'] := by
  simp only [mapMD, h, h']
theorem and_true {g : Expr → Option D} {e e' : Expr} {es : List Expr} {d : D} (h : g e = some d) (ht : truth d = some true) : boolG .And g (e :: e' :: es) = boolG .And g (e' :: es) := by
  rw [boolG]
  · rw [h]; dsimp only; rw [ht]
  · intro h; cases h
theorem bool_last {g : Expr → Option D} {op : BoolOp} {e : Expr} : boolG op g [e] = g e := by rw [boolG]
end

theorem mapI1 (d : D) : mapI [some d] = some [d] := rfl
theorem mapI2 (d d' : D) : mapI [some d, some d'] = some [d, d'] := rfl
theorem mapI3 (d d' d'' : D) : mapI [some d, some d', some d''] = some [d, d', d''] := rfl
noncomputable def ifO (c : Option Bool) (a b : Option D) : Option D := c.bind fun c => if c = true then a else b
theorem mkS_ok {l : List Nat} (h : l.length ≤ lim) : mkS (strL l) = some (.str (strL l)) := by unfold mkS; rw [strL_len, if_pos h]
theorem mkL_ok {l : List D} (h : l.length ≤ lim) : mkL l = some (.list l) := by unfold mkL; rw [if_pos h]

theorem eq_nil (l : List D) : cmpD .Eq (.list l) (.list []) = some (.bool (decide (l = []))) := by
  cases l with
  | nil => rfl
  | cons x r => rfl
theorem L_congr {s s' : Nat → Nat → Nat} : ∀ (a b : List Nat), (∀ x ∈ a, ∀ y ∈ b, s x y = s' x y) → L s a b = L s' a b
  | [], b, _ => by rw [L_nil_l, L_nil_l]
  | x :: a, [], _ => by rw [L_nil_r, L_nil_r]
  | x :: a, y :: b, h => by
    rw [L_cons, L_cons, h x List.mem_cons_self y List.mem_cons_self, L_congr a b fun x' hx y' hy => h x' (List.mem_cons_of_mem _ hx) y' (List.mem_cons_of_mem _ hy),
      L_congr a (y :: b) fun x' hx y' hy => h x' (List.mem_cons_of_mem _ hx) y' hy, L_congr (x :: a) b fun x' hx y' hy => h x' hx y' (List.mem_cons_of_mem _ hy)]
termination_by a b => a.length + b.length


theorem foldl_min_int (v : Int) : ∀ (l : List Int) (a : Int), (v = a ∨ v ∈ l) → v ≤ a → (∀ x ∈ l, v ≤ x) → l.foldl min a = v
  | [], _, h, _, _ => h.elim Eq.symm fun h => nomatch h
  | b :: l, a, h, ha, hl => foldl_min_int v l (min a b) (h.elim (fun h => .inl (h ▸ (Int.min_eq_left (h ▸ hl b List.mem_cons_self)).symm)) fun h => (List.mem_cons.mp h).elim (fun h => .inl (h ▸ (Int.min_eq_right (h ▸ ha)).symm)) .inr)
      (Int.le_min.mpr ⟨ha, hl b List.mem_cons_self⟩) fun x hx => hl x (List.mem_cons_of_mem _ hx)
theorem min_nat {l : List Nat} {v : Nat} (hv : v ∈ l) (hle : ∀ x ∈ l, v ≤ x) : callB (Str.ofString "min") [.list (l.map fun (n : Nat) => D.int n)] = some (.int v) := by
  cases l with
  | nil => cases hv
  | cons a l =>
    have e : ((a :: l).map fun (n : Nat) => D.int n) = ((a : Int) :: l.map fun (n : Nat) => (n : Int)).map D.int := by rw [List.map_cons, List.map_cons, List.map_map]; rfl
    rw [e, min_ok]
    refine congrArg (fun z => some (D.int z)) (foldl_min_int v _ a ((List.mem_cons.mp hv).imp (fun h => congrArg _ h) fun h => List.mem_map.mpr ⟨v, h, rfl⟩) (Int.ofNat_le.mpr (hle a List.mem_cons_self)) fun x hx => ?_)
    obtain ⟨y, hy, rfl⟩ := List.mem_map.mp hx
    exact Int.ofNat_le.mpr (hle y (List.mem_cons_of_mem _ hy))
theorem item_range (f : Nat → D) (n m : Nat) (h : m < n) : itemD (.list ((List.range n).map f)) (.int (m : Int)) = some (f m) := by
  show (idxD _ _).bind _ = _
  rw [idx_nat (by simpa using h)]
  simp [h]
theorem item_last (f : Nat → D) (n : Nat) : itemD (.list ((List.range (n + 1)).map f)) (.int (-1)) = some (f n) := by
  show (idxD _ _).bind _ = _
  rw [show (-1 : Int) = -((1 : Nat) : Int) from rfl, idx_neg Nat.one_pos (by rw [List.length_map, List.length_range]; exact Nat.le_add_left 1 n)]
  simp

section
variable {C : Cx} {n : Nat} {sc : Scope} {r : List Stmt} {Q : Option D → St → Prop} {l l' : List (Str × D)} {o o' : List (Str × OD)} {J : PE}
theorem ex_tup {st : St} {ts : List Expr} {k : Nat} {tp p : Pos} {e : Expr} (hh : C.hint p.line = .plain) : ex C (n + 1) sc st (.Assign [.Tuple ts k tp] e p) =
    if targetOk sc (.Tuple ts k tp) = true ∧ (namesT ts).Nodup ∧ (swapQ ts e sc).isSome = true then (evK C n sc st .plain e).bind fun d => (bindS (.Tuple ts k tp) d st).map fun st' => (none, st') else none := by
  show (if targetOk sc (.Tuple ts k tp) = true ∧ (namesT ts).Nodup ∧ (swapQ ts e sc).isSome = true then (evK C n sc (if C.hint p.line = .freeze then st.frozen else st) .plain e).bind fun d => (bindS (.Tuple ts k tp) d (if C.hint p.line = .freeze then st.frozen else st)).map fun st' => (none, st') else none) = _
  rw [hh]
  rfl
/-- two names from a pair -/
theorem wp_tup2 (x y : Str) (d₁ d₂ : D) (l' : List (Str × D)) (o' : List (Str × OD)) {ts : List Expr} {k : Nat} {tp p : Pos} {e : Expr} (h1 : targetOk sc (.Tuple ts k tp) = true) (h2 : (namesT ts).Nodup) (h3 : (swapQ ts e sc).isSome = true) (hh : C.hint p.line = .plain)
    (he : ev C n sc (mkJ J l) e = some (.tuple [d₁, d₂])) (hb : bindS (.Tuple ts k tp) (.tuple [d₁, d₂]) (stOf l o J) = some (((stOf l o J).set x d₁).set y d₂)) (hl : setL y d₂ (setL x d₁ l) = l') (ho : delL y (delL x o) = o')
    (h : WP (exs C (n + 1) sc (stOf l' o' J) r) Q) : WP (exs C (n + 2) sc (stOf l o J) (.Assign [.Tuple ts k tp] e p :: r)) Q := by
  refine wp_cons ⟨none, stOf l' o' J, ?_, h⟩
  rw [ex_tup hh]
  rw [if_pos ⟨h1, h2, h3⟩]
  have he' : evK C n sc (stOf l o J) .plain e = some (.tuple [d₁, d₂]) := he
  rw [he', Option.bind_some, hb]
  rw [stOf_set, stOf_set, hl, ho]; rfl
end


section
variable {C : Cx} {n : Nat} {sc : Scope} {r : List Stmt} {Q : Option D → St → Prop} {l l' : List (Str × D)} {o o' : List (Str × OD)} {J : PE}
theorem ex_meth {st : St} {x m : Str} {xp ap cp p : Pos} {e : Expr} (hp : (ap.endLine == cp.line) = true) : ex C (n + 1) sc st (.Expr (.Call (.Attribute (.Name x xp) m ap) [e] [] cp) p) = exN C n sc st (C.hint p.line) x m e := by
  show (if (true && ap.endLine == cp.line) = true then exN C n sc st (C.hint p.line) x m e else none) = _
  rw [Bool.true_and, if_pos hp]
theorem wp_append (x : Str) (ld : List D) (d : D) (o' : List (Str × OD)) {xp ap cp p : Pos} {e : Expr} (hp : (ap.endLine == cp.line) = true) (hx : mkO o x = some (.one ld)) (hh : C.hint p.line = .plain) (he : ev C n sc (mkJ J l) e = some d) (hlen : ld.length < lim)
    (hl : delL x l = l) (ho : setL x (.one (ld ++ [d])) o = o') (h : WP (exs C (n + 1) sc (stOf l o' (hide x J)) r) Q) :
    WP (exs C (n + 2) sc (stOf l o J) (.Expr (.Call (.Attribute (.Name x xp) (Str.ofString "append") ap) [e] [] cp) p :: r)) Q := by
  refine wp_own x (.one (ld ++ [d])) l o' ?_ hl ho h
  have hx' : (stOf l o J).o x = some (.one ld) := hx
  have he' : evK C n sc (stOf l o J) (C.hint p.line) e = some d := by rw [hh]; exact he
  rw [ex_meth hp, exN, hx', Option.bind_some]
  show (if Str.ofString "append" = Str.ofString "append" then (evK C n sc (stOf l o J) (C.hint p.line) e).bind _ else _) = _
  rw [if_pos rfl, he', Option.bind_some, if_pos hlen]
theorem wp_extend (x : Str) (ld ds : List D) (o' : List (Str × OD)) {xp ap cp p : Pos} {e : Expr} (hp : (ap.endLine == cp.line) = true) (hx : mkO o x = some (.one ld)) (hh : C.hint p.line = .plain) (he : ev C n sc (mkJ J l) e = some (.list ds)) (hlen : ld.length + ds.length < lim)
    (hl : delL x l = l) (ho : setL x (.one (ld ++ ds)) o = o') (h : WP (exs C (n + 1) sc (stOf l o' (hide x J)) r) Q) :
    WP (exs C (n + 2) sc (stOf l o J) (.Expr (.Call (.Attribute (.Name x xp) (Str.ofString "extend") ap) [e] [] cp) p :: r)) Q := by
  refine wp_own x (.one (ld ++ ds)) l o' ?_ hl ho h
  have hx' : (stOf l o J).o x = some (.one ld) := hx
  have he' : evK C n sc (stOf l o J) (C.hint p.line) e = some (.list ds) := by rw [hh]; exact he
  rw [ex_meth hp, exN, hx', Option.bind_some]
  show (if Str.ofString "extend" = Str.ofString "append" then _ else if Str.ofString "extend" = Str.ofString "extend" then ((evK C n sc (stOf l o J) (C.hint p.line) e).bind asList).bind _ else _) = _
  rw [if_neg (by decide), if_pos rfl, he']
  exact if_pos hlen
end

/-- a dict of texts to ints -/
noncomputable def lk : List Str → List Int → Str → Option Int
  | k :: ks, v :: vs, x => if k = x then some v else lk ks vs x
  | _, _, _ => none
theorem compT_if {C : Cx} {n : Nat} {sc scope : Scope} {m : PE} {elt t e : Expr} (x : Str) {d r : D} {c : Bool} (hb : bindT t d m = some (upd m x d)) (hc : (ev C n (relabelS scope sc) (upd m x d) e).bind truth = some c) (he : c = true → ev C n (relabelS scope sc) (upd m x d) elt = some r) :
    compT C n sc scope m elt t [e] d = some (if c = true then [r] else []) := by
  unfold compT
  rw [hb]
  simp only [testsG]
  rw [hc]
  cases c with
  | false => rfl
  | true => dsimp only; rw [he rfl]; rfl
section
variable {C : Cx} {n : Nat} {sc : Scope} {st st' : St} {t : Expr} {b : List Stmt} {d : D} {r : List D} {Q : Option D → St → Prop}
theorem wp_exf_nil (h : Q none st) : WP (exf C (n + 1) sc st t b []) Q := ⟨none, st, rfl, h⟩
theorem wp_exf_cons (hb : bindS t d st = some st') (h : WP (exs C n sc st' b) fun o st'' => match o with
    | none => WP (exf C n sc st'' t b r) Q
    | some x => Q (some x) st'') : WP (exf C (n + 1) sc st t b (d :: r)) Q := by
  obtain ⟨o, st'', e, q⟩ := h
  cases o with
  | none =>
    obtain ⟨o, st3, e', q'⟩ := q
    exact ⟨o, st3, by rw [exf_cons, hb, Option.bind_some, e]; exact e', q'⟩
  | some x => exact ⟨some x, st'', by rw [exf_cons, hb, Option.bind_some, e]; rfl, q⟩
theorem wp_exf_step (h : ∃ st', bindS t d st = some st' ∧ WP (exs C n sc st' b) fun o st'' => match o with
    | none => WP (exf C n sc st'' t b r) Q
    | some x => Q (some x) st'') : WP (exf C (n + 1) sc st t b (d :: r)) Q := let ⟨_, h1, h2⟩ := h; wp_exf_cons h1 h2
/-- a method's call -/
theorem ev_callM {m : PE} {o : Expr} {f : Str} {ap p : Pos} {args : List Expr} {d : D} {ds : List D} (hk : (baseOk o && ap.endLine == p.line && decide (args.length < 29)) = true) (ho : ev C n sc m o = some d) (ha : mapMD (ev C n sc m) args = some ds) :
    ev C (n + 1) sc m (.Call (.Attribute o f ap) args [] p) = callM d f ds := by
  show (if (baseOk o && ap.endLine == p.line && decide (args.length < 29)) = true then (ev C n sc m o).bind fun d => (mapMD (ev C n sc m) args).bind fun ds => callM d f ds else none) = _
  rw [if_pos hk, ho, ha]; rfl
end


section
variable {C : Cx} {n : Nat} {sc : Scope} {m : PE} {elt t it : Expr} {scope : Scope} {p : Pos} {ifs : List Expr} {α β : Type}
theorem ev_cmp {l r : Expr} {op : CmpOp} {a b : D} (hl : ev C n sc m l = some a) (hr : ev C n sc m r = some b) : ev C (n + 1) sc m (.Compare l [op] [r] p) = cmpD op a b := by
  show ((ev C n sc m l).bind fun a => (ev C n sc m r).bind fun b => cmpD op a b) = _
  rw [hl, hr]; rfl
theorem ev_comp22 {xs : List α} (φ : α → D) {g2 : Comprehension} (g : α → List D) (hs : scopeOk scope sc = true) (hi : itE C n sc m it = some (xs.map φ)) (ht : (targetOk scope t && freshT (inner scope m) t) = true)
    (hg : ∀ x ∈ xs, compT2 C n sc scope (inner scope m) elt t g2 (φ x) = some (g x)) (hl : (xs.map g).flatten.length ≤ lim) : ev C (n + 1) sc m (.ListComp elt [⟨t, it, [], 0⟩, g2] scope p) = some (.list (xs.map g).flatten) := by
  simp only [Bool.and_eq_true] at ht
  rw [ev_lc, if_pos hs, hi, Option.bind_some]
  unfold gensG
  rw [if_pos ⟨rfl, ht.1, ht.2⟩]
  simp only [testsG]
  rw [mapMD_map, mapMD_ok (g := g)]
  · exact if_pos hl
  · exact hg
theorem comp2_name (y : Str) {t2 it2 : Expr} {ifs2 : List Expr} {d : D} {xs : List β} (φ : β → D) (g : β → List D) (hb : bindT t d m = some (upd m y d)) (hi : itE C n (relabelS scope sc) (upd m y d) it2 = some (xs.map φ)) (ht : (targetOk scope t2 && freshT (upd m y d) t2) = true)
    (hg : ∀ x ∈ xs, compT C n sc scope (upd m y d) elt t2 ifs2 (φ x) = some (g x)) : compT2 C n sc scope m elt t ⟨t2, it2, ifs2, 0⟩ d = some (xs.map g).flatten := by
  simp only [Bool.and_eq_true] at ht
  unfold compT2
  rw [hb]
  dsimp only
  rw [hi]
  dsimp only
  unfold gensG
  rw [if_pos ⟨rfl, ht.1, ht.2⟩, mapMD_map, mapMD_ok (g := g)]
  · rfl
  · exact hg
end

theorem eqI_refl (n : Nat) (z : Int) : eqN n (.int z) (.int z) = some true := by
  cases n <;> simp [eqN, eqS]
theorem eqLs_refl {f : D → D → Option Bool} : ∀ l : List D, (∀ d ∈ l, f d d = some true) → eqLs f l l = some true
  | [], _ => rfl
  | d :: l, h => by
    unfold eqLs
    rw [h d List.mem_cons_self, eqLs_refl l fun x hx => h x (List.mem_cons_of_mem _ hx)]; rfl
theorem eqN_list {n : Nat} (l : List D) (h : ∀ d ∈ l, eqN n d d = some true) : eqN (n + 1) (.list l) (.list l) = some true := by
  simp only [eqN, if_true]
  exact eqLs_refl l h
theorem eq_ints (n : Nat) (zs : List Int) : eqN (n + 1) (.list (zs.map .int)) (.list (zs.map .int)) = some true := eqN_list _ fun d hd => by
  obtain ⟨z, _, rfl⟩ := List.mem_map.mp hd; exact eqI_refl n z
theorem ne_same {d : D} (h : eqD d d = some true) : (cmpD .NotEq d d).bind truth = some false := by
  show ((eqD d d).map fun t => D.bool !t).bind truth = _
  rw [h]; rfl
theorem mod_ok {a b : Int} (h : b ≠ 0) : binD .Mod (.int a) (.int b) = some (.int (a.fmod b)) := by
  show (if b ≠ 0 then some (D.int (a.fmod b)) else none) = _
  rw [if_pos h]


/-- own lists behind the junk -/
noncomputable def overJ (J : PE) (o : List (Str × OD)) : PE := fun y => match J y with
  | some d => some d
  | none => (mkO o y).map OD.toD
theorem mkJ_over (J : PE) (o : List (Str × OD)) : ∀ (l : List (Str × D)) (y : Str), mkJ (overJ J o) l y = (match mkJ J l y with | some d => some d | none => (mkO o y).map OD.toD)
  | [], _ => rfl
  | (x, d) :: r, y => by
    simp only [mkJ]
    split
    · rfl
    · exact mkJ_over J o r y
theorem stOf_frzJ (l : List (Str × D)) (o : List (Str × OD)) (J : PE) : (stOf l o J).frozen = stOf l [] (overJ J o) := by
  unfold St.frozen stOf St.all
  congr 1
  funext y
  rw [mkJ_over]
  all_goals (
    dsimp only
    cases mkJ J l y <;> rfl)

section
variable {C : Cx} {n : Nat} {sc : Scope} {r : List Stmt} {Q : Option D → St → Prop} {l l' : List (Str × D)} {o o' : List (Str × OD)} {J : PE} {st : St}
theorem wp_frz (x : Str) (d : D) (l' : List (Str × D)) {np p : Pos} {e : Expr} (hs : storeOk sc x = true) (hh : C.hint p.line = .freeze) (he : ev C n sc (mkJ (overJ J o) l) e = some d)
    (hl : setL x d l = l') (h : WP (exs C (n + 1) sc (stOf l' [] (overJ J o)) r) Q) : WP (exs C (n + 2) sc (stOf l o J) (.Assign [.Name x np] e p :: r)) Q := by
  refine wp_cons ⟨none, stOf l' [] (overJ J o), ?_, h⟩
  have he' : evK C n sc (stOf l [] (overJ J o)) .freeze e = some d := he
  rw [ex_set, if_pos hs, hh, if_neg (by decide), if_neg (by decide), if_pos rfl, stOf_frzJ, he', Option.map_some]
  rw [stOf_set, hl]; rfl
end

end Mine

end

section
set_option Elab.async false
namespace Mine

/-- a sign of the grammar: a terminal, the deep one, the middle one, the top -/
inductive Sy where
  | t (z : Int)
  | dn
  | mi
  | tp
noncomputable abbrev Form := List Sy
/-- the twoS sides of each -/
structure Gr where
  a0 : Form
  a1 : Form
  b0 : Form
  b1 : Form
  c0 : Form
  c1 : Form
noncomputable def tOk : Sy → Bool
  | .t _ => true
  | _ => false
noncomputable def twoS (G : Gr) : Sy → List Form
  | .tp => [G.a0, G.a1]
  | .mi => [G.b0, G.b1]
  | .dn => [G.c0, G.c1]
  | .t _ => []
/-- the first that gives way is replaced -/
noncomputable def stp (G : Gr) : Form → List Form
  | [] => [[]]
  | .t z :: r => (stp G r).map (.t z :: ·)
  | X :: r => (twoS G X).map (· ++ r)

/-- all that comes of a form, in the order of the choices -/
noncomputable def gens (g : Sy → List (List Int)) : Form → List (List Int)
  | [] => [[]]
  | X :: r => (g X).flatMap fun a => (gens g r).map (a ++ ·)
noncomputable def ge0 : Sy → List (List Int)
  | .t z => [[z]]
  | _ => []
noncomputable def ge1 (G : Gr) : Sy → List (List Int)
  | .t z => [[z]]
  | .dn => gens ge0 G.c0 ++ gens ge0 G.c1
  | _ => []
noncomputable def ge2 (G : Gr) : Sy → List (List Int)
  | .t z => [[z]]
  | .dn => ge1 G .dn
  | .mi => gens (ge1 G) G.b0 ++ gens (ge1 G) G.b1
  | .tp => []
noncomputable def ge3 (G : Gr) : Sy → List (List Int)
  | .tp => gens (ge2 G) G.a0 ++ gens (ge2 G) G.a1
  | X => ge2 G X

/-- the sides are as deep as they may be -/
noncomputable def dph : Sy → Nat
  | .t _ => 0
  | .dn => 1
  | .mi => 2
  | .tp => 4
noncomputable def rk : Form → Nat
  | [] => 0
  | X :: r => dph X + rk r
structure GrOk (G : Gr) : Prop where
  c0 : ∀ X ∈ G.c0, dph X = 0
  c1 : ∀ X ∈ G.c1, dph X = 0
  b0 : (∀ X ∈ G.b0, dph X ≤ 1) ∧ rk G.b0 ≤ 1
  b1 : (∀ X ∈ G.b1, dph X ≤ 1) ∧ rk G.b1 ≤ 1
  a0 : (∀ X ∈ G.a0, dph X ≤ 2) ∧ rk G.a0 ≤ 3
  a1 : (∀ X ∈ G.a1, dph X ≤ 2) ∧ rk G.a1 ≤ 3

theorem gens_congr {g g' : Sy → List (List Int)} : ∀ s : Form, (∀ X ∈ s, g X = g' X) → gens g s = gens g' s
  | [], _ => rfl
  | X :: r, h => by
    unfold gens
    rw [h X List.mem_cons_self, gens_congr r fun Y hY => h Y (List.mem_cons_of_mem _ hY)]
theorem dph_zero {X : Sy} (h : dph X = 0) : ∃ z, X = .t z := by
  cases X with
  | t z => exact ⟨z, rfl⟩
  | _ => cases h
theorem g_low {G : Gr} {X : Sy} (h : dph X = 0) : ge0 X = ge3 G X ∧ ge1 G X = ge3 G X := by
  obtain ⟨z, rfl⟩ := dph_zero h
  exact ⟨rfl, rfl⟩
theorem g_mid {G : Gr} {X : Sy} (h : dph X ≤ 1) : ge1 G X = ge3 G X := by
  cases X with
  | t z => rfl
  | dn => rfl
  | mi => exact absurd h (by decide)
  | tp => exact absurd h (by decide)
theorem g_top {G : Gr} {X : Sy} (h : dph X ≤ 2) : ge2 G X = ge3 G X := by
  cases X with
  | tp => exact absurd h (by decide)
  | _ => rfl
/-- what comes of one that gives way is what comes of its sides -/
theorem ge3_two {G : Gr} (ok : GrOk G) : ∀ X : Sy, tOk X = false → ge3 G X = (twoS G X).flatMap (gens (ge3 G))
  | .t _, h => nomatch h
  | .dn, _ => by
    show gens ge0 G.c0 ++ gens ge0 G.c1 = gens (ge3 G) G.c0 ++ (gens (ge3 G) G.c1 ++ [])
    rw [List.append_nil, gens_congr G.c0 fun X hX => (g_low (ok.c0 X hX)).1, gens_congr G.c1 fun X hX => (g_low (ok.c1 X hX)).1]
  | .mi, _ => by
    show gens (ge1 G) G.b0 ++ gens (ge1 G) G.b1 = gens (ge3 G) G.b0 ++ (gens (ge3 G) G.b1 ++ [])
    rw [List.append_nil, gens_congr G.b0 fun X hX => g_mid (ok.b0.1 X hX), gens_congr G.b1 fun X hX => g_mid (ok.b1.1 X hX)]
  | .tp, _ => by
    show gens (ge2 G) G.a0 ++ gens (ge2 G) G.a1 = gens (ge3 G) G.a0 ++ (gens (ge3 G) G.a1 ++ [])
    rw [List.append_nil, gens_congr G.a0 fun X hX => g_top (ok.a0.1 X hX), gens_congr G.a1 fun X hX => g_top (ok.a1.1 X hX)]

theorem gens_cons (g : Sy → List (List Int)) (X : Sy) (r : Form) : gens g (X :: r) = (g X).flatMap fun a => (gens g r).map (a ++ ·) := rfl
theorem gens_app (g : Sy → List (List Int)) : ∀ (s r : Form), gens g (s ++ r) = (gens g s).flatMap fun a => (gens g r).map (a ++ ·)
  | [], r => by simp [gens]
  | X :: s, r => by
    rw [List.cons_append, gens_cons, gens_cons, gens_app g s r]
    simp only [List.flatMap_assoc, List.map_flatMap, List.flatMap_map, List.map_map]
    congr 1; funext a; congr 1; funext b; congr 1; funext c
    simp [Function.comp]
/-- a step changes nothing in what comes -/
theorem stp_gens {G : Gr} (ok : GrOk G) : ∀ r : Form, (stp G r).flatMap (gens (ge3 G)) = gens (ge3 G) r
  | [] => rfl
  | .t z :: r => by
    show ((stp G r).map (.t z :: ·)).flatMap (gens (ge3 G)) = _
    rw [List.flatMap_map]
    have ih := stp_gens ok r
    have e : ∀ r : Form, gens (ge3 G) (.t z :: r) = (gens (ge3 G) r).map ([z] ++ ·) := fun r => by
      show [[z]].flatMap _ = _
      simp
    rw [e r, ← ih, List.map_flatMap]
    congr 1; funext s
    exact e s
  | .dn :: r => stp_nt ok .dn rfl r
  | .mi :: r => stp_nt ok .mi rfl r
  | .tp :: r => stp_nt ok .tp rfl r
where
  stp_nt {G : Gr} (ok : GrOk G) (X : Sy) (h : tOk X = false) (r : Form) : ((twoS G X).map (· ++ r)).flatMap (gens (ge3 G)) = gens (ge3 G) (X :: r) := by
    rw [List.flatMap_map]
    show (twoS G X).flatMap (fun s => gens (ge3 G) (s ++ r)) = (ge3 G X).flatMap fun a => (gens (ge3 G) r).map (a ++ ·)
    rw [ge3_two ok X h, List.flatMap_assoc]
    congr 1; funext s
    rw [gens_app]

theorem rk_app : ∀ s r : Form, rk (s ++ r) = rk s + rk r
  | [], r => (Nat.zero_add _).symm
  | X :: s, r => by rw [List.cons_append, rk, rk, rk_app s r, Nat.add_assoc]
theorem rk_zero : ∀ s : Form, (∀ X ∈ s, dph X = 0) → rk s = 0
  | [], _ => rfl
  | X :: s, h => by rw [rk, h X List.mem_cons_self, rk_zero s fun Y hY => h Y (List.mem_cons_of_mem _ hY)]
theorem two_rk {G : Gr} (ok : GrOk G) : ∀ X : Sy, ∀ s ∈ twoS G X, rk s + 1 ≤ dph X
  | .t _, _, h => nomatch h
  | .dn, s, h => by
    rcases List.mem_cons.mp h with rfl | h
    · rw [rk_zero _ ok.c0]; exact Nat.le_refl 1
    · rw [List.mem_singleton.mp h, rk_zero _ ok.c1]; exact Nat.le_refl 1
  | .mi, s, h => by
    rcases List.mem_cons.mp h with rfl | h
    · exact Nat.succ_le_succ ok.b0.2
    · rw [List.mem_singleton.mp h]; exact Nat.succ_le_succ ok.b1.2
  | .tp, s, h => by
    rcases List.mem_cons.mp h with rfl | h
    · exact Nat.succ_le_succ ok.a0.2
    · rw [List.mem_singleton.mp h]; exact Nat.succ_le_succ ok.a1.2
theorem stp_rk {G : Gr} (ok : GrOk G) (n : Nat) : ∀ r : Form, rk r ≤ n + 1 → ∀ s ∈ stp G r, rk s ≤ n
  | [], _, s, h => by rw [List.mem_singleton.mp h]; exact Nat.zero_le _
  | .t z :: r, hr, s, h => by
    obtain ⟨s', h', rfl⟩ := List.mem_map.mp h
    have := stp_rk ok n r (by rwa [rk, dph, Nat.zero_add] at hr) s' h'
    rw [rk, dph, Nat.zero_add]; exact this
  | .dn :: r, hr, s, h => nt ok .dn r hr s h
  | .mi :: r, hr, s, h => nt ok .mi r hr s h
  | .tp :: r, hr, s, h => nt ok .tp r hr s h
where
  nt {G : Gr} (ok : GrOk G) {n : Nat} (X : Sy) (r : Form) (hr : rk (X :: r) ≤ n + 1) (s : Form) (h : s ∈ (twoS G X).map (· ++ r)) : rk s ≤ n := by
    obtain ⟨s', h', rfl⟩ := List.mem_map.mp h
    have := two_rk ok X s' h'
    rw [rk] at hr
    rw [rk_app]; exact Nat.le_of_succ_le_succ (Nat.le_trans (Nat.le_of_eq (Nat.succ_add _ _).symm) (Nat.le_trans (Nat.add_le_add_right this _) hr))

noncomputable def Fn (G : Gr) : Nat → List Form
  | 0 => [[.tp]]
  | i + 1 => (Fn G i).flatMap (stp G)
theorem fn_gens {G : Gr} (ok : GrOk G) : ∀ i, (Fn G i).flatMap (gens (ge3 G)) = ge3 G .tp
  | 0 => by simp [Fn, gens]
  | i + 1 => by
    show ((Fn G i).flatMap (stp G)).flatMap (gens (ge3 G)) = _
    rw [List.flatMap_assoc, ← fn_gens ok i]
    congr 1; funext r; exact stp_gens ok r
theorem fn_rk {G : Gr} (ok : GrOk G) : ∀ i, i ≤ 4 → ∀ r ∈ Fn G i, rk r ≤ 4 - i
  | 0, _, r, h => by rw [List.mem_singleton.mp h]; exact Nat.le_refl 4
  | i + 1, hi, r, h => by
    obtain ⟨s, hs, hr⟩ := List.mem_flatMap.mp h
    exact stp_rk ok (4 - (i + 1)) s (by rw [(by decide : ∀ i < 4, 4 - (i + 1) + 1 = 4 - i) i hi]; exact fn_rk ok i (Nat.le_of_succ_le hi) s hs) r hr
/-- after four turns the forms are rows of terminals -/
theorem rk_done (g : Sy → List (List Int)) (hg : ∀ z, g (.t z) = [[z]]) : ∀ r : Form, rk r = 0 → ∃ a, gens g r = [a] ∧ r = a.map .t
  | [], _ => ⟨[], rfl, rfl⟩
  | X :: r, h => by
    rw [rk] at h
    obtain ⟨z, rfl⟩ := dph_zero (X := X) (Nat.eq_zero_of_add_eq_zero_right h)
    obtain ⟨a, h1, h2⟩ := rk_done g hg r (Nat.eq_zero_of_add_eq_zero_left h)
    refine ⟨z :: a, ?_, by rw [h2]; rfl⟩
    unfold gens
    rw [hg, h1]; rfl
theorem done_map (g : Sy → List (List Int)) (hg : ∀ z, g (.t z) = [[z]]) : ∀ l : List Form, (∀ r ∈ l, rk r = 0) → l = (l.flatMap (gens g)).map fun a => a.map .t
  | [], _ => rfl
  | r :: l, h => by
    obtain ⟨a, h1, h2⟩ := rk_done g hg r (h r List.mem_cons_self)
    rw [List.flatMap_cons, List.map_append, ← done_map g hg l fun s hs => h s (List.mem_cons_of_mem _ hs), h1]
    show _ = a.map .t :: l
    rw [← h2]
theorem fn_done {G : Gr} (ok : GrOk G) : Fn G 4 = (ge3 G .tp).map fun a => a.map .t := by
  have := done_map (ge3 G) (fun _ => rfl) (Fn G 4) fun r hr => Nat.le_zero.mp (fn_rk ok 4 (Nat.le_refl 4) r hr)
  rwa [fn_gens ok] at this
end Mine

end

section
open PySem PySem.W PyProof.Rows
set_option Elab.async false
namespace Mine
noncomputable def hint3 : Nat → Hint := fun n => if n = 32 then .own else if n = 129 then .own else if n = 121 then .own2 else if n = 40 then .relaxed else if n = 127 then .freeze else if n = 139 then .freeze else .plain
/-- the context that def i sees -/
noncomputable def k3 (i : Nat) : Cx := chainC fuel3 ⟨glOf tab3, [], hint3⟩ (((List.range i).map d3).reverse)
noncomputable def f3 (i : Nat) : List D → Option D := callF (k3 i) fuel3 (d3 i).xs (d3 i).sc (d3 i).body

noncomputable def price (x y : Nat) : Nat := if x = y then 0 else if Txt.lower (strL [x]) = Txt.lower (strL [y]) then 1 else 2
theorem price_ok : PriceOk price where
  same := fun x => by simp [price]
  symm := fun x y => by
    unfold price
    by_cases h : x = y
    · subst h; rfl
    · rw [if_neg h, if_neg (Ne.symm h)]
      by_cases g : Txt.lower (strL [x]) = Txt.lower (strL [y])
      · rw [if_pos g, if_pos g.symm]
      · rw [if_neg g, if_neg (Ne.symm g)]
  two := fun x y => by
    unfold price
    split
    · omega
    · split <;> omega

theorem t0 (x y : Nat) : f3 0 [.str (strL [x]), .str (strL [y])] = some (.int (price x y)) := by
  refine call_wp [(Str.ofString "ch_a", .str (strL [x])), (Str.ofString "ch_b", .str (strL [y]))] (by kernel_rfl) ?_
  refine wp_if0 (n := 397) (strL [x] == strL [y]) (by kernel_rfl) (fun h => ?_) fun h => ?_
  · rw [strL_beq, decide_eq_true_eq] at h
    obtain rfl : x = y := by simpa using h
    refine wp_ret (n := 396) (.int 0) (by kernel_rfl) ?_
    simp [Nx, price]
  · rw [strL_beq, decide_eq_false_iff_not] at h
    have hne : x ≠ y := fun e => h (by rw [e])
    refine wp_if0 (n := 396) (Txt.lower (strL [x]) == Txt.lower (strL [y])) (by kernel_rfl) (fun h => ?_) fun h => ?_
    · refine wp_ret (n := 395) (.int 1) (by kernel_rfl) ?_
      simp only [Nx, price]
      rw [if_neg hne, if_pos (by simpa using h)]; rfl
    · refine wp_ret (n := 396) (.int 2) (by kernel_rfl) ?_
      simp only [price]
      rw [if_neg hne, if_neg (by simpa using h)]; rfl
noncomputable def stN : Stmt := .Return none ⟨0, 0, 0, 0⟩
noncomputable def eNo : Expr := .Constant .none 0 ⟨0, 0, 0, 0⟩
noncomputable def prt : Stmt → Expr × List Stmt × List Stmt
  | .While t b _ _ => (t, b, [])
  | .For t _ b _ _ => (t, b, [])
  | .If t b o _ => (t, b, o)
  | .Return (some e) _ => (e, [], [])
  | .Assign _ e _ => (e, [], [])
  | _ => (eNo, [], [])
noncomputable def wT (s : Stmt) : Expr := (prt s).1
noncomputable def wB (s : Stmt) : List Stmt := (prt s).2.1
noncomputable def wI (s : Stmt) : Expr := (prt s).1
noncomputable def bE : Expr → List Expr
  | .BoolOp _ es _ => es
  | .ListComp e gs _ _ => e :: gs.map (·.iter)
  | .Compare l _ rs _ => l :: rs
  | _ => []
noncomputable def bG (e : Expr) (i : Nat) : Expr := (bE e).getD i eNo
noncomputable def lv (i : Nat) : Stmt := (d3 1).body.getD i stN

noncomputable abbrev cL : Cx := k3 1
noncomputable abbrev sL : Scope := (d3 1).sc
noncomputable def sA (a b : List Nat) (mc : Int) : List (Str × D) := [(Str.ofString "a", .str (strL a)), (Str.ofString "b", .str (strL b)), (Str.ofString "max_cost", .int mc)]
noncomputable def sB (a b : List Nat) (mc : Int) (p : Int) : List (Str × D) := sA a b mc ++ [(Str.ofString "pre", .int p)]

noncomputable abbrev g2 (i : Nat) : Expr := bG (wT (lv 2)) i
theorem pre_loop {a b : List Nat} {mc : Int} {Q : Option D → St → Prop} (ha : a.length ≤ 100) (h : Q none (stOf (sB a b mc (cp a b)) [])) :
    WP (exw cL 396 sL (stOf (sB a b mc 0) []) (wT (lv 2)) (wB (lv 2))) Q := by
  have key := wp_exw (C := cL) (sc := sL) (t := wT (lv 2)) (b := wB (lv 2)) (K := 20) (Q := Q) (fun k st => ∃ p : Nat, st = stOf (sB a b mc p) [] ∧ k + p = cp a b ∧ cp (a.drop p) (b.drop p) = k) ?_ (cp a b) (375 - cp a b) (stOf (sB a b mc 0) []) ⟨0, rfl, rfl, rfl⟩
  · have := (cp_le a b).1
    rwa [show 375 - cp a b + cp a b + (20 + 1) = 396 from congrArg (· + 21) (Nat.sub_add_cancel (Nat.le_trans this (Nat.le_trans ha (by decide))))] at key
  rintro k m st ⟨p, rfl, hk, hc⟩
  show ∃ c, (boolG .And (ev cL (m + 19) sL (stOf (sB a b mc p) []).all) [g2 0, g2 1, g2 2]).bind truth = some c ∧ _
  have h1 : (ev cL (m + 19) sL (stOf (sB a b mc p) []).all (g2 0)).bind truth = some ((strL (cutL a (some (p : Int)) none 1)).length != 0) := by kernel_rfl
  have h2 : (ev cL (m + 19) sL (stOf (sB a b mc p) []).all (g2 1)).bind truth = some ((strL (cutL b (some (p : Int)) none 1)).length != 0) := by kernel_rfl
  have h3 : (ev cL (m + 19) sL (stOf (sB a b mc p) []).all (g2 2)).bind truth = ((bind2 (itemD (.str (strL a)) (.int p)) (itemD (.str (strL b)) (.int p)) (cmpD .Eq)).bind truth) := by kernel_rfl
  rw [cut_from] at h1 h2
  rcases hA : a.drop p with _ | ⟨x, a'⟩
  · refine ⟨false, and_cons (t := false) (u := false) (by rw [h1, hA]; rfl) (fun q => by cases q), fun _ => ?_, fun q => by cases q⟩
    rw [hA] at hc; simp only [cp] at hc
    obtain rfl : p = cp a b := (Nat.zero_add p).symm.trans (hc ▸ hk)
    exact h
  rcases hB : b.drop p with _ | ⟨y, b'⟩
  · refine ⟨false, and_cons (t := true) (u := false) (by rw [h1, hA]; rfl) (fun _ => and_cons (t := false) (u := false) (by rw [h2, hB]; rfl) (fun q => by cases q)), fun _ => ?_, fun q => by cases q⟩
    rw [hA, hB] at hc; simp only [cp] at hc
    obtain rfl : p = cp a b := (Nat.zero_add p).symm.trans (hc ▸ hk)
    exact h
  obtain ⟨ha1, ha2, ha3⟩ := getElem_drop hA
  obtain ⟨hb1, hb2, hb3⟩ := getElem_drop hB
  rw [item_str a p (idx_nat ha1) ha2, item_str b p (idx_nat hb1) hb2] at h3
  have h3 : (ev cL (m + 19) sL (stOf (sB a b mc p) []).all (g2 2)).bind truth = some (strL [x] == strL [y]) := h3
  rw [strL_beq] at h3
  refine ⟨_, and_cons (t := true) (by rw [h1, hA]; rfl) (fun _ => and_cons (t := true) (by rw [h2, hB]; rfl) fun _ => h3), fun q => ?_, fun q => ?_⟩
  · have q : ([x] == [y]) = false := by simpa using q
    have q : x ≠ y := by simpa using q
    rw [hA, hB] at hc
    simp only [cp, if_neg q] at hc
    obtain rfl : p = cp a b := (Nat.zero_add p).symm.trans (hc ▸ hk)
    exact h
  · have q : x = y := by simpa using q
    subst q
    rw [hA, hB] at hc
    simp only [cp, if_true] at hc
    refine wp_set (n := m + 19) (Str.ofString "pre") (.int ((p : Int) + 1)) (sB a b mc ((p : Int) + 1)) [] (by kernel_rfl) (by kernel_rfl) (by kernel_rfl) (wp_nil (n := m + 18) ?_)
    refine ⟨cp a' b', hc.symm, p + 1, rfl, by rw [← hk, ← hc, Nat.add_assoc, Nat.add_comm 1], ?_⟩
    rw [← ha3, ← hb3]


noncomputable def sC (a b : List Nat) (mc : Int) (q : Int) (k : Nat) : List (Str × D) := sA a b mc ++ [(Str.ofString "pre", .int q), (Str.ofString "post", .int (-(k : Int)))]
theorem cut_zero (a : List Nat) : cut a 0 = a := by unfold cut; simp
theorem cut_nil {a : List Nat} {k : Nat} (h : a.length ≤ k) : cut a k = [] := by unfold cut; rw [Nat.sub_eq_zero_of_le h]; rfl
theorem cut_ne {a : List Nat} {k : Nat} (h : k < a.length) : ((strL (cut a k)).length != 0) = true := by
  rw [strL_len, cut_length]; exact bne_iff_ne.mpr (Nat.sub_ne_zero_of_lt h)
noncomputable abbrev g6 (i : Nat) : Expr := bG (wT (lv 6)) i
theorem sl_post (a b : List Nat) (mc q : Int) (k m : Nat) : (ev cL (m + 19) sL (stOf (sC a b mc q k) []).all (g6 0)).bind truth = some ((strL (cut a k)).length != 0) ∧
    (ev cL (m + 19) sL (stOf (sC a b mc q k) []).all (g6 1)).bind truth = some ((strL (cut b k)).length != 0) := by
  cases k with
  | zero =>
    have h1 : (ev cL (m + 19) sL (stOf (sC a b mc q 0) []).all (g6 0)).bind truth = some ((strL (cutL a none none 1)).length != 0) := by kernel_rfl
    have h2 : (ev cL (m + 19) sL (stOf (sC a b mc q 0) []).all (g6 1)).bind truth = some ((strL (cutL b none none 1)).length != 0) := by kernel_rfl
    rw [cut_all] at h1 h2
    rw [h1, h2, cut_zero, cut_zero]; exact ⟨rfl, rfl⟩
  | succ k =>
    have h1 : (ev cL (m + 19) sL (stOf (sC a b mc q (k + 1)) []).all (g6 0)).bind truth = some ((strL (cutL a none (some (-((k + 1 : Nat) : Int))) 1)).length != 0) := by kernel_rfl
    have h2 : (ev cL (m + 19) sL (stOf (sC a b mc q (k + 1)) []).all (g6 1)).bind truth = some ((strL (cutL b none (some (-((k + 1 : Nat) : Int))) 1)).length != 0) := by kernel_rfl
    rw [cut_less _ _ (Nat.succ_pos _)] at h1 h2
    exact ⟨h1, h2⟩

theorem rev_drop_cons {a : List Nat} {k x : Nat} {t : List Nat} (h : a.reverse.drop k = x :: t) : k < a.length ∧ a[a.length - (k + 1)]? = some x ∧ t = a.reverse.drop (k + 1) := by
  obtain ⟨h1, h2, h3⟩ := getElem_drop h
  rw [List.length_reverse] at h1
  refine ⟨h1, ?_, h3⟩
  rw [List.getElem?_reverse h1, Nat.sub_sub, Nat.add_comm 1 k] at h2
  exact h2
theorem rev_drop_nil {a : List Nat} {k : Nat} (h : a.reverse.drop k = []) : a.length ≤ k := by
  have := List.drop_eq_nil_iff.mp h
  rwa [List.length_reverse] at this

theorem post_loop {a b : List Nat} {mc u : Int} {Q : Option D → St → Prop} (ha : a.length ≤ 100) (h : Q none (stOf (sC a b mc u (cp a.reverse b.reverse)) [])) :
    WP (exw cL 392 sL (stOf (sC a b mc u 0) []) (wT (lv 6)) (wB (lv 6))) Q := by
  have key := wp_exw (C := cL) (sc := sL) (t := wT (lv 6)) (b := wB (lv 6)) (K := 20) (Q := Q) (fun k st => ∃ p : Nat, st = stOf (sC a b mc u p) [] ∧ k + p = cp a.reverse b.reverse ∧ cp (a.reverse.drop p) (b.reverse.drop p) = k) ?_ (cp a.reverse b.reverse) (371 - cp a.reverse b.reverse) (stOf (sC a b mc u 0) []) ⟨0, rfl, rfl, rfl⟩
  · have := (cp_le a.reverse b.reverse).1
    rw [List.length_reverse] at this
    rwa [show 371 - cp a.reverse b.reverse + cp a.reverse b.reverse + (20 + 1) = 392 from congrArg (· + 21) (Nat.sub_add_cancel (Nat.le_trans this (Nat.le_trans ha (by decide))))] at key
  rintro k m st ⟨p, rfl, hk, hc⟩
  show ∃ c, (boolG .And (ev cL (m + 19) sL (stOf (sC a b mc u p) []).all) [g6 0, g6 1, g6 2]).bind truth = some c ∧ _
  obtain ⟨h1, h2⟩ := sl_post a b mc u p m
  have h3 : (ev cL (m + 19) sL (stOf (sC a b mc u p) []).all (g6 2)).bind truth = (bind2 (itemD (.str (strL a)) (.int (-(p : Int) - 1))) (itemD (.str (strL b)) (.int (-(p : Int) - 1))) (cmpD .Eq)).bind truth := by kernel_rfl
  rw [show (-(p : Int) - 1) = -((p + 1 : Nat) : Int) from Int.neg_add.symm] at h3
  rcases hA : a.reverse.drop p with _ | ⟨x, a'⟩
  · refine ⟨false, and_cons (t := false) (u := false) (by rw [h1, cut_nil (rev_drop_nil hA)]; rfl) (fun q => by cases q), fun _ => ?_, fun q => by cases q⟩
    rw [hA] at hc; simp only [cp] at hc
    obtain rfl : p = cp a.reverse b.reverse := (Nat.zero_add p).symm.trans (hc ▸ hk)
    exact h
  obtain ⟨ha1, ha2, ha3⟩ := rev_drop_cons hA
  rcases hB : b.reverse.drop p with _ | ⟨y, b'⟩
  · refine ⟨false, and_cons (t := true) (u := false) (by rw [h1, cut_ne ha1]) (fun _ => and_cons (t := false) (u := false) (by rw [h2, cut_nil (rev_drop_nil hB)]; rfl) (fun q => by cases q)), fun _ => ?_, fun q => by cases q⟩
    rw [hA, hB] at hc; simp only [cp] at hc
    obtain rfl : p = cp a.reverse b.reverse := (Nat.zero_add p).symm.trans (hc ▸ hk)
    exact h
  obtain ⟨hb1, hb2, hb3⟩ := rev_drop_cons hB
  rw [item_str a _ (idx_neg (Nat.succ_pos _) ha1) ha2, item_str b _ (idx_neg (Nat.succ_pos _) hb1) hb2] at h3
  have h3 : (ev cL (m + 19) sL (stOf (sC a b mc u p) []).all (g6 2)).bind truth = some (strL [x] == strL [y]) := h3
  rw [strL_beq] at h3
  refine ⟨_, and_cons (t := true) (by rw [h1, cut_ne ha1]) (fun _ => and_cons (t := true) (by rw [h2, cut_ne hb1]) fun _ => h3), fun q => ?_, fun q => ?_⟩
  · have q : ([x] == [y]) = false := by simpa using q
    have q : x ≠ y := by simpa using q
    rw [hA, hB] at hc
    simp only [cp, if_neg q] at hc
    obtain rfl : p = cp a.reverse b.reverse := (Nat.zero_add p).symm.trans (hc ▸ hk)
    exact h
  · have q : x = y := by simpa using q
    subst q
    rw [hA, hB] at hc
    simp only [cp, if_true] at hc
    have e : (-(p : Int) - 1) = -((p + 1 : Nat) : Int) := Int.neg_add.symm
    refine wp_set (n := m + 19) (Str.ofString "post") (.int (-((p + 1 : Nat) : Int))) (sC a b mc u (p + 1)) [] (by rw [← e]; kernel_rfl) (by kernel_rfl) (by kernel_rfl) (wp_nil (n := m + 18) ?_)
    refine ⟨cp a' b', hc.symm, p + 1, rfl, by rw [← hk, ← hc, Nat.add_assoc, Nat.add_comm 1], ?_⟩
    rw [← ha3, ← hb3]

end Mine

end

section
open PySem PySem.W PyProof.Rows
set_option Elab.async false
namespace Mine
noncomputable abbrev iOf (l : List Nat) : List D := l.map fun (n : Nat) => D.int n
noncomputable def lvF (i : Nat) : Stmt := (wB (lv 15)).getD i stN
noncomputable abbrev rowK : Str := Str.ofString "row"
/-- the names of the outer loop, of the inner one -/
noncomputable def sO (a b : List Nat) (mc u : Int) (k : Nat) (res : Nat) : List (Str × D) := sC a b mc u k ++ [(Str.ofString "result", .int res)]
noncomputable def sI (a b : List Nat) (mc u : Int) (k : Nat) (bi : Nat) (c dist res : Nat) (mn : Int) : List (Str × D) :=
  sO a b mc u k res ++ [(Str.ofString "bindex", .int bi), (Str.ofString "bchar", .str (strL [c])), (Str.ofString "distance", .int dist), (Str.ofString "minimum", .int mn)]
noncomputable def oR (row : List Nat) : List (Str × OD) := [(rowK, .one (iOf row))]

theorem natMin (a b : Nat) : min (a : Int) (b : Int) = ((min a b : Nat) : Int) := by
  rcases Nat.le_total a b with h | h
  · rw [Nat.min_eq_left h, Int.min_eq_left (Int.ofNat_le.mpr h)]
  · rw [Nat.min_eq_right h, Int.min_eq_right (Int.ofNat_le.mpr h)]
theorem turn {a b : List Nat} {mc u : Int} {k : Nat} {bi c dist res r x i m : Nat} {mn : Int} {l1 l2 : List Nat} {J : PE} {Q : Option D → St → Prop} (hi : i = l1.length) (hx : a[i]? = some x)
    (h : ∀ J', Q none (stOf (sI a b mc u k bi c r (min (min res r + 2) (dist + price c x)) (if ((min (min res r + 2) (dist + price c x) : Nat) : Int) < mn then ((min (min res r + 2) (dist + price c x) : Nat) : Int) else mn)) (oR (l1 ++ min (min res r + 2) (dist + price c x) :: l2)) (hide rowK J'))) :
    ∃ st', bindS (wT (lvF 3)) (.int i) (stOf (sI a b mc u k bi c dist res mn) (oR (l1 ++ r :: l2)) (hide rowK J)) = some st' ∧ WP (exs cL (m + 20) sL st' (wB (lvF 3))) Q := by
  refine ⟨_, bind1 (l' := sI a b mc u k bi c dist res mn ++ [(Str.ofString "index", .int i)]) (o' := oR (l1 ++ r :: l2)) (Str.ofString "index") (by kernel_rfl) (by kernel_rfl) (by kernel_rfl), ?_⟩
  refine wp_set1 (n := m + 18) (Str.ofString "substitute") (.int ((dist : Int) + (price c x : Nat))) (sI a b mc u k bi c dist res mn ++ [(Str.ofString "index", .int i), (Str.ofString "substitute", .int ((dist : Int) + (price c x : Nat)))]) (oR (l1 ++ r :: l2)) (by kernel_rfl) (by kernel_rfl) ?_ (by kernel_rfl) (by kernel_rfl) ?_
  · refine Eq.trans (b := bind2 (some (.int dist)) ((mapI [some (.str (strL [c])), itemD (.str (strL a)) (.int i)]).bind (f3 0)) (binD .Add)) (by kernel_rfl) ?_
    rw [item_str a i (idx_nat (List.getElem?_eq_some_iff.mp hx).1) hx]
    show bind2 _ (f3 0 [.str (strL [c]), .str (strL [x])]) _ = _
    rw [t0]; rfl
  refine wp_rel1 (n := m + 17) (Str.ofString "distance") (.int r) (sI a b mc u k bi c r res mn ++ [(Str.ofString "index", .int i), (Str.ofString "substitute", .int ((dist : Int) + (price c x : Nat)))]) (oR (l1 ++ r :: l2)) (by kernel_rfl) (by kernel_rfl) ?_ rfl (by kernel_rfl) (by kernel_rfl) ?_
  · refine Eq.trans (b := itemD (.list (iOf (l1 ++ r :: l2))) (.int i)) (by kernel_rfl) ?_
    rw [hi, item_at]
  refine wp_set1 (n := m + 16) (Str.ofString "insert_delete") (.int (min (res : Int) r + 2)) (sI a b mc u k bi c r res mn ++ [(Str.ofString "index", .int i), (Str.ofString "substitute", .int ((dist : Int) + (price c x : Nat))), (Str.ofString "insert_delete", .int (min (res : Int) r + 2))]) (oR (l1 ++ r :: l2)) (by kernel_rfl) (by kernel_rfl) (by kernel_rfl) (by kernel_rfl) (by kernel_rfl) ?_
  have ev : min (min (res : Int) r + 2) ((dist : Int) + (price c x : Nat)) = ((min (min res r + 2) (dist + price c x) : Nat) : Int) := by
    rw [natMin]; exact natMin (min res r + 2) (dist + price c x)
  generalize min (min res r + 2) (dist + price c x) = v at ev h ⊢
  refine wp_set1 (n := m + 15) (Str.ofString "result") (.int v) (sI a b mc u k bi c r v mn ++ [(Str.ofString "index", .int i), (Str.ofString "substitute", .int ((dist : Int) + (price c x : Nat))), (Str.ofString "insert_delete", .int (min (res : Int) r + 2))]) (oR (l1 ++ r :: l2)) (by kernel_rfl) (by kernel_rfl) ?_ (by kernel_rfl) (by kernel_rfl) ?_
  · rw [← ev]; kernel_rfl
  refine wp_sub (n := m + 14) rowK (iOf (l1 ++ r :: l2)) (iOf (l1 ++ v :: l2)) i (.int v) (oR (l1 ++ v :: l2)) (by kernel_rfl) (by kernel_rfl) (by kernel_rfl) (by kernel_rfl) (by rw [hi]; exact setD_at l1 l2 r v) (by kernel_rfl) (by kernel_rfl) ?_
  refine wp_if0 (n := m + 12) (decide ((v : Int) < mn)) (by kernel_rfl) (fun hc => ?_) fun hc => wp_nil ?_
  · refine wp_set1 (n := m + 11) (Str.ofString "minimum") (.int v) (sI a b mc u k bi c r v v ++ [(Str.ofString "index", .int i), (Str.ofString "substitute", .int ((dist : Int) + (price c x : Nat))), (Str.ofString "insert_delete", .int (min (res : Int) r + 2))]) (oR (l1 ++ v :: l2)) (by kernel_rfl) (by kernel_rfl) (by kernel_rfl) (by kernel_rfl) (by kernel_rfl) (wp_nil ?_)
    refine wp_nil ?_
    rw [stOf_app, ← hide_keep rowK _ _ (by kernel_rfl)]
    have := h (mkJ (hide rowK (hide rowK J)) [(Str.ofString "index", .int i), (Str.ofString "substitute", .int ((dist : Int) + (price c x : Nat))), (Str.ofString "insert_delete", .int (min (res : Int) r + 2))])
    rwa [if_pos (of_decide_eq_true hc)] at this
  · rw [stOf_app, ← hide_keep rowK _ _ (by kernel_rfl)]
    have := h (mkJ (hide rowK (hide rowK J)) [(Str.ofString "index", .int i), (Str.ofString "substitute", .int ((dist : Int) + (price c x : Nat))), (Str.ofString "insert_delete", .int (min (res : Int) r + 2))])
    rwa [if_neg (of_decide_eq_false hc)] at this

theorem goRow_length (s : Nat → Nat → Nat) (c : Nat) : ∀ (a row : List Nat) (d r : Nat), a.length = row.length → (goRow s c a row d r).length = a.length
  | [], [], _, _, _ => rfl
  | x :: a, r :: row, d, q, h => by simp only [goRow, List.length_cons, goRow_length s c a row _ _ (by simpa using h)]
  | [], _ :: _, _, _, h => by simp at h
  | _ :: _, [], _, _, h => by simp at h

/-- the inner loop's state -/
inductive InI (a b : List Nat) (mc u : Int) (k bi c : Nat) (row : List Nat) (dist : Nat) (rest : List D) (st : St) : Prop where
  | mk (l1 l2 : List Nat) (d res : Nat) (mn : Int) (J' : PE) : l1.length + l2.length = a.length → rest = iOf ((List.range' l1.length l2.length)) → st = stOf (sI a b mc u k bi c d res mn) (oR (l1 ++ l2)) (hide rowK J') →
      goRow price c a row dist dist = l1 ++ goRow price c (a.drop l1.length) l2 d res → minN (goRow price c a row dist dist) big = minN (goRow price c (a.drop l1.length) l2 d res) mn → lastN (goRow price c a row dist dist) dist = lastN (goRow price c (a.drop l1.length) l2 d res) res → InI a b mc u k bi c row dist rest st
theorem inner_loop {a b : List Nat} {mc u : Int} {k : Nat} {bi c m : Nat} {Q : Option D → St → Prop} (row : List Nat) (dist : Nat) (J : PE) (hl : row.length = a.length) (hn : a.length ≤ 100)
    (h : ∀ d' J', Q none (stOf (sI a b mc u k bi c d' (lastN (goRow price c a row dist dist) dist) (minN (goRow price c a row dist dist) big)) (oR (goRow price c a row dist dist)) (hide rowK J'))) :
    WP (exf cL (m + 130) sL (stOf (sI a b mc u k bi c dist dist big) (oR row) (hide rowK J)) (wT (lvF 3)) (wB (lvF 3)) (iOf (List.range a.length))) Q := by
  have key := wp_exf (C := cL) (sc := sL) (t := wT (lvF 3)) (b := wB (lvF 3)) (K := 20) (Q := Q) (InI a b mc u k bi c row dist) ?_ ?_
    (iOf (List.range a.length)) (m + 109 - a.length) (stOf (sI a b mc u k bi c dist dist big) (oR row) (hide rowK J)) ⟨[], row, dist, dist, big, J, by simpa using hl, by rw [hl, List.range_eq_range']; rfl, rfl, rfl, rfl, rfl⟩
  · simp only [iOf, List.length_map, List.length_range] at key
    rwa [show m + 109 - a.length + a.length + (20 + 1) = m + 130 from congrArg (· + 21) (Nat.sub_add_cancel (Nat.le_trans hn (Nat.le_trans (by decide) (Nat.le_add_left 109 m))))] at key
  · rintro d rest m st ⟨l1, l2, dd, res, mn, J', h1, h2, rfl, h4, h5, h6⟩
    cases l2 with
    | nil => simp [iOf] at h2
    | cons r l2 =>
      simp only [List.length_cons] at h1 h2
      rw [List.range'_succ] at h2
      obtain ⟨rfl, rfl⟩ := List.cons.inj h2
      have hlt : l1.length < a.length := h1 ▸ Nat.lt_add_of_pos_right (Nat.succ_pos _)
      obtain ⟨x, hx⟩ : ∃ x, a[l1.length]? = some x := ⟨_, List.getElem?_eq_getElem hlt⟩
      have hd : a.drop l1.length = x :: a.drop (l1.length + 1) := by
        rw [List.drop_eq_getElem_cons hlt]; congr 1; exact Option.some.inj ((List.getElem?_eq_getElem hlt).symm.trans hx)
      rw [hd] at h4 h5 h6
      simp only [goRow, minN, lastN] at h4 h5 h6
      refine turn rfl hx fun J'' => ⟨l1 ++ [min (min res r + 2) (dd + price c x)], l2, r, min (min res r + 2) (dd + price c x), (if ((min (min res r + 2) (dd + price c x) : Nat) : Int) < mn then ((min (min res r + 2) (dd + price c x) : Nat) : Int) else mn), J'', ?_, ?_, ?_, ?_, ?_, ?_⟩
      · rw [List.length_append, ← h1]; exact Nat.add_right_comm _ 1 _
      · simp only [List.length_append, List.length_singleton]
        try rfl
      · rw [List.append_assoc, List.singleton_append]
      · rw [h4]; simp
      · rw [h5]; simp
      · rw [h6]; simp
  · rintro st ⟨l1, l2, dd, res, mn, J', h1, h2, rfl, h4, h5, h6⟩
    cases l2 with
    | cons r l2 => rw [List.length_cons, List.range'_succ] at h2; cases h2
    | nil =>
      have hd : a.drop l1.length = [] := List.drop_of_length_le (Nat.le_of_eq h1.symm)
      rw [hd] at h4 h5 h6
      simp only [goRow, minN, lastN, List.append_nil] at h4 h5 h6
      have := h dd J'
      rw [h5, h6, h4] at this
      rwa [List.append_nil]

theorem turnO {a b : List Nat} {mc u : Int} {k : Nat} {c res i m : Nat} {row : List Nat} {J : PE} {Q : Option D → St → Prop} (hx : b[i]? = some c) (hl : row.length = a.length) (hn : a.length ≤ 100)
    (h : ∀ J', if mc < minN (goRow price c a row (2 * i) (2 * i)) big then (∀ st, Q (some (.int (mc + 1))) st) else Q none (stOf (sO a b mc u k (lastN (goRow price c a row (2 * i) (2 * i)) (2 * i))) (oR (goRow price c a row (2 * i) (2 * i))) (hide rowK J'))) :
    ∃ st', bindS (wT (lv 15)) (.int i) (stOf (sO a b mc u k res) (oR row) (hide rowK J)) = some st' ∧ WP (exs cL (m + 150) sL st' (wB (lv 15))) Q := by
  refine ⟨_, bind1 (l' := sO a b mc u k res ++ [(Str.ofString "bindex", .int i)]) (o' := oR row) (Str.ofString "bindex") (by kernel_rfl) (by kernel_rfl) (by kernel_rfl), ?_⟩
  refine wp_set1 (n := m + 148) (Str.ofString "bchar") (.str (strL [c])) (sO a b mc u k res ++ [(Str.ofString "bindex", .int i), (Str.ofString "bchar", .str (strL [c]))]) (oR row) (by kernel_rfl) (by kernel_rfl) ?_ (by kernel_rfl) (by kernel_rfl) ?_
  · refine Eq.trans (b := itemD (.str (strL b)) (.int i)) (by kernel_rfl) ?_
    rw [item_str b i (idx_nat (List.getElem?_eq_some_iff.mp hx).1) hx]
  refine wp_two (n := m + 147) (Str.ofString "distance") (Str.ofString "result") (.int ((i : Int) * 2)) (sO a b mc u k (2 * i) ++ [(Str.ofString "bindex", .int i), (Str.ofString "bchar", .str (strL [c])), (Str.ofString "distance", .int ((2 * i : Nat) : Int))]) (oR row) (by kernel_rfl) (by kernel_rfl) (by decide)
    (Eq.trans (b := binD .Mult (.int i) (.int 2)) (by kernel_rfl) (mul_two _)) rfl ?_ (by kernel_rfl) ?_
  · rw [show ((2 * i : Nat) : Int) = (i : Int) * 2 from Int.mul_comm 2 (i : Int)]
    show _ = sC a b mc u k ++ [(Str.ofString "result", .int ((2 * i : Nat) : Int))] ++ _
    rw [show ((2 * i : Nat) : Int) = (i : Int) * 2 from Int.mul_comm 2 (i : Int)]
    kernel_rfl
  refine wp_set1 (n := m + 146) (Str.ofString "minimum") (.int big) (sI a b mc u k i c (2 * i) (2 * i) big) (oR row) (by kernel_rfl) (by kernel_rfl) (by kernel_rfl) (by kernel_rfl) (by kernel_rfl) ?_
  refine wp_for1 (n := m + 145) (iOf (List.range a.length)) (by kernel_rfl) (by kernel_rfl) ?_ ?_
  · refine Eq.trans (b := (if rOk 0 (a.length : Int) 1 = true then some (D.range 0 (a.length : Int) 1) else none).bind itemsD) (by kernel_rfl) ?_
    rw [if_pos (rOk_nat (Nat.le_trans hn (by decide)))]
    show some ((rangeL 0 (a.length : Int) 1).map D.int) = _
    rw [rangeL_nat]; simp [iOf]
  refine inner_loop (m := m + 15) row (2 * i) J hl hn fun d' J' => ?_
  refine wp_if0 (n := m + 143) (decide (minN (goRow price c a row (2 * i) (2 * i)) big > mc)) (by kernel_rfl) (fun hc => ?_) fun hc => wp_nil ?_
  · refine wp_ret (n := m + 142) (.int (mc + 1)) (by kernel_rfl) ?_
    have := h J'
    rw [if_pos (of_decide_eq_true hc)] at this
    exact this _
  · have := h (mkJ (hide rowK J') [(Str.ofString "bindex", .int i), (Str.ofString "bchar", .str (strL [c])), (Str.ofString "distance", .int d'), (Str.ofString "minimum", .int (minN (goRow price c a row (2 * i) (2 * i)) big))])
    rw [if_neg (of_decide_eq_false hc), hide_keep rowK _ _ (by kernel_rfl), ← stOf_app] at this
    exact this

theorem outer_loop {a b : List Nat} {mc u : Int} {k : Nat} {Q : Option D → St → Prop} (row : List Nat) (res : Nat) (J : PE) (hl : row.length = a.length) (hn : a.length ≤ 100) (hm : b.length ≤ 100)
    (h1 : ∀ (r : Nat) row' J', (r : Int) = outer price a mc b 0 row res → Q none (stOf (sO a b mc u k r) (oR row') (hide rowK J'))) (h2 : ∀ st, Q (some (.int (outer price a mc b 0 row res))) st) :
    WP (exf cL 383 sL (stOf (sO a b mc u k res) (oR row) (hide rowK J)) (wT (lv 15)) (wB (lv 15)) (iOf (List.range b.length))) Q := by
  have key := wp_exf (C := cL) (sc := sL) (t := wT (lv 15)) (b := wB (lv 15)) (K := 150) (Q := Q)
    (fun rest st => ∃ (i : Nat) (row' : List Nat) (r : Nat) (J' : PE), rest = iOf (List.range' i (b.length - i)) ∧ i ≤ b.length ∧ row'.length = a.length ∧ st = stOf (sO a b mc u k r) (oR row') (hide rowK J') ∧
      outer price a mc b 0 row res = outer price a mc (b.drop i) i row' r) ?_ ?_
    (iOf (List.range b.length)) (232 - b.length) (stOf (sO a b mc u k res) (oR row) (hide rowK J)) ⟨0, row, res, J, by rw [List.range_eq_range', Nat.sub_zero], Nat.zero_le _, hl, rfl, rfl⟩
  · simp only [iOf, List.length_map, List.length_range] at key
    rwa [show 232 - b.length + b.length + (150 + 1) = 383 from congrArg (· + 151) (Nat.sub_add_cancel (Nat.le_trans hm (by decide)))] at key
  · rintro d rest m st ⟨i, row', r, J', e1, e2, e3, rfl, e5⟩
    cases hd : b.drop i with
    | nil =>
      have := List.drop_eq_nil_iff.mp hd
      rw [Nat.sub_eq_zero_of_le this] at e1; cases e1
    | cons c b' =>
      obtain ⟨g1, g2, g3⟩ := getElem_drop hd
      rw [show b.length - i = (b.length - (i + 1)) + 1 from (Nat.succ_pred (Nat.sub_ne_zero_of_lt g1)).symm, List.range'_succ] at e1
      obtain ⟨rfl, rfl⟩ := List.cons.inj e1
      rw [hd] at e5
      simp only [outer] at e5
      refine turnO g2 e3 hn fun J'' => ?_
      split
      · rename_i hc
        intro st
        rw [if_pos hc] at e5
        rw [← e5]; exact h2 st
      · rename_i hc
        rw [if_neg hc] at e5
        exact ⟨i + 1, _, _, J'', rfl, g1, by rw [goRow_length]; exact e3.symm, rfl, by rw [e5, ← g3]⟩
  · rintro st ⟨i, row', r, J', e1, e2, e3, rfl, e5⟩
    cases hd : b.drop i with
    | nil => rw [hd] at e5; exact h1 r row' J' e5.symm
    | cons c b' =>
      obtain ⟨g1, _, _⟩ := getElem_drop hd
      rw [show b.length - i = (b.length - (i + 1)) + 1 from (Nat.succ_pred (Nat.sub_ne_zero_of_lt g1)).symm, List.range'_succ] at e1
      cases e1

theorem evens_range (n : Nat) (hn : n ≤ 100) : (callB (Str.ofString "range") [.int 2, .int (2 * ((n : Int) + 1)), .int 2]).bind (fun d => callB (Str.ofString "list") [d]) = some (.list (iOf (evens n))) := by
  have e1 : callB (Str.ofString "range") [.int 2, .int (2 * ((n : Int) + 1)), .int 2] = some (.range 2 (2 * ((n : Int) + 1)) 2) := by
    show (if rOk 2 (2 * ((n : Int) + 1)) 2 = true then some (D.range 2 (2 * ((n : Int) + 1)) 2) else none) = _
    have h : rOk 2 (2 * ((n : Int) + 1)) 2 = true := decide_eq_true ⟨by decide, Nat.le_trans (Nat.mul_le_mul_left 2 (Nat.succ_le_succ hn)) (by decide), by decide, by decide⟩
    rw [if_pos h]
  have e2 : rangeLen 2 (2 * ((n : Int) + 1)) 2 = n := by
    unfold rangeLen Builtin.Range.rangeSize
    rw [if_pos (by decide)]
    cases n with
    | zero => rfl
    | succ n =>
      have h : (2 : Int) < 2 * (((n + 1 : Nat) : Int) + 1) := Int.ofNat_lt.mpr (Nat.mul_lt_mul_of_pos_left (Nat.succ_lt_succ (Nat.succ_pos n)) Nat.two_pos)
      rw [if_pos h, show (2 * (((n + 1 : Nat) : Int) + 1) - 2 - 1) = 1 + 2 * (n : Int) by clear h e1 hn; omega, Int.add_mul_ediv_left _ _ (by decide), show (1 : Int) / 2 = 0 from rfl, Int.zero_add]
      rfl
  rw [e1]
  show (if rangeLen 2 (2 * ((n : Int) + 1)) 2 ≤ lim then some (D.list ((rangeL 2 (2 * ((n : Int) + 1)) 2).map .int)) else none) = _
  rw [if_pos (by rw [e2]; exact Nat.le_trans hn (by decide))]
  unfold rangeL
  rw [e2]
  simp [iOf, evens]

end Mine

end

section
open PySem PySem.W PyProof.Rows
set_option Elab.async false
namespace Mine

/-- behind the strips -/
theorem tail_walk {a b : List Nat} {mc u : Int} {k : Nat} (hn : a.length ≤ 100) (hm : b.length ≤ 100) {Q : Option D → St → Prop} (h : ∀ st, Q (some (.int (levT price mc a b))) st) (ha : a ≠ []) :
    WP (exs cL 388 sL (stOf (sC a b mc u k) []) ((d3 1).body.drop 12)) Q := by
  refine wp_if0 (n := 385) (decide (((b.length : Int) - a.length) * 2 > mc)) (Eq.trans (b := (bind2 (binD .Mult (.int ((b.length : Int) - a.length)) (.int 2)) (some (.int mc)) (cmpD .Gt)).bind truth) (by kernel_rfl) (by rw [mul_two]; rfl)) (fun hc => ?_) fun hc => ?_
  · refine wp_ret (n := 384) (.int (mc + 1)) (by kernel_rfl) ?_
    have := h (stOf (sC a b mc u k) [])
    unfold levT at this
    have hc := of_decide_eq_true hc
    rw [if_pos (by omega)] at this
    exact this
  have hc := of_decide_eq_false hc
  have hT : levT price mc a b = outer price a mc b 0 (evens a.length) 0 := by unfold levT; rw [if_neg (by omega)]
  refine wp_own1 (n := 385) rowK (iOf (evens a.length)) (sC a b mc u k) (oR (evens a.length)) (by kernel_rfl) (by kernel_rfl) (evF_of (by kernel_rfl) (Eq.trans (b := (mapI [(mapI [some (.int 2), some (.int (2 * ((a.length : Int) + 1))), some (.int 2)]).bind (callB (Str.ofString "range"))]).bind (callB (Str.ofString "list"))) (by kernel_rfl) ?_) ?_) (by kernel_rfl) (by kernel_rfl) ?_
  · have e := evens_range a.length hn
    show (mapI [callB (Str.ofString "range") [.int 2, .int (2 * ((a.length : Int) + 1)), .int 2]]).bind (callB (Str.ofString "list")) = _
    cases hr : callB (Str.ofString "range") [.int 2, .int (2 * ((a.length : Int) + 1)), .int 2] with
    | none => rw [hr] at e; cases e
    | some d => rw [hr] at e; exact e
  · have := ints_flat ((evens a.length).map fun (n : Nat) => (n : Int))
    rwa [List.map_map] at this
  refine wp_set1 (n := 384) (Str.ofString "result") (.int 0) (sO a b mc u k 0) (oR (evens a.length)) (by kernel_rfl) (by kernel_rfl) (by kernel_rfl) (by kernel_rfl) (by kernel_rfl) ?_
  refine wp_for1 (n := 383) (iOf (List.range b.length)) (by kernel_rfl) (by kernel_rfl) ?_ ?_
  · refine Eq.trans (b := (if rOk 0 (b.length : Int) 1 = true then some (D.range 0 (b.length : Int) 1) else none).bind itemsD) (by kernel_rfl) ?_
    rw [if_pos (rOk_nat (Nat.le_trans hm (by decide)))]
    show some ((rangeL 0 (b.length : Int) 1).map D.int) = _
    rw [rangeL_nat]; simp [iOf]
  have hR := h
  rw [hT] at hR
  refine outer_loop (evens a.length) 0 _ (by simp [evens]) hn hm (fun r row' J' e => ?_) fun st => hR st
  refine wp_ret (n := 382) (.int r) (by kernel_rfl) ?_
  rw [e]; exact hR _

theorem lenN (n : Nat) : (!((n : Nat) != 0)) = decide (n = 0) := by cases n <;> simp

theorem strip_walk {a b : List Nat} {mc u : Int} {k : Nat} (hn : a.length ≤ 100) (hm : b.length ≤ 100) {Q : Option D → St → Prop} (h : ∀ st, Q (some (.int (levS price mc a b))) st) :
    WP (exs cL 391 sL (stOf (sC a b mc u k) []) ((d3 1).body.drop 9)) Q := by
  refine wp_if0 (n := 388) (decide (a.length = 0) || decide (b.length = 0)) ?_ (fun hc => ?_) fun hc => ?_
  · show (boolG .Or (ev cL 388 sL (stOf (sC a b mc u k) []).all) [bG (wI (lv 9)) 0, bG (wI (lv 9)) 1]).bind truth = _
    have h1 : (ev cL 388 sL (stOf (sC a b mc u k) []).all (bG (wI (lv 9)) 0)).bind truth = some (!(a.length != 0)) := by kernel_rfl
    have h2 : (ev cL 388 sL (stOf (sC a b mc u k) []).all (bG (wI (lv 9)) 1)).bind truth = some (!(b.length != 0)) := by kernel_rfl
    rw [lenN] at h1 h2
    exact or_cons h1 fun _ => h2
  · refine wp_ret (n := 387) (.int (2 * ((a.length : Int) + b.length))) (by kernel_rfl) ?_
    have := h (stOf (sC a b mc u k) [])
    unfold levS at this
    rw [if_pos (by simpa [List.length_eq_zero_iff] using hc)] at this
    exact this
  have hab : ¬ (a = [] ∨ b = []) := by simpa [List.length_eq_zero_iff] using hc
  refine wp_if0 (n := 387) (decide ((a.length : Int) > 40) || decide ((b.length : Int) > 40)) ?_ (fun hc => ?_) fun hc => ?_
  · show (boolG .Or (ev cL 387 sL (stOf (sC a b mc u k) []).all) [bG (wI (lv 10)) 0, bG (wI (lv 10)) 1]).bind truth = _
    have h1 : (ev cL 387 sL (stOf (sC a b mc u k) []).all (bG (wI (lv 10)) 0)).bind truth = some (decide ((a.length : Int) > 40)) := by kernel_rfl
    have h2 : (ev cL 387 sL (stOf (sC a b mc u k) []).all (bG (wI (lv 10)) 1)).bind truth = some (decide ((b.length : Int) > 40)) := by kernel_rfl
    exact or_cons h1 fun _ => h2
  · refine wp_ret (n := 386) (.int (mc + 1)) (by kernel_rfl) ?_
    have := h (stOf (sC a b mc u k) [])
    unfold levS at this
    simp only [Bool.or_eq_true, decide_eq_true_eq] at hc
    rw [if_neg hab, if_pos (by omega)] at this
    exact this
  simp only [Bool.or_eq_false_iff, decide_eq_false_iff_not] at hc
  have h40 : ¬ (a.length > 40 ∨ b.length > 40) := by omega
  refine wp_if0 (n := 386) (decide ((b.length : Int) < a.length)) (by kernel_rfl) (fun hc => ?_) fun hc => ?_
  · refine wp_cons (n := 386) ⟨none, stOf (sC b a mc u k) [], ?_, ?_⟩
    · have e : ((stOf (sC a b mc u k) []).set (Str.ofString "a") (.str (strL b))).set (Str.ofString "b") (.str (strL a)) = stOf (sC b a mc u k) [] := by
        rw [stOf_set, stOf_set]; kernel_rfl
      rw [← e]; kernel_rfl
    refine wp_nil ?_
    refine tail_walk hm hn (fun st => ?_) fun e => hab (.inr e)
    have := h st
    unfold levS at this
    have hc := of_decide_eq_true hc
    rwa [if_neg hab, if_neg h40, if_pos (by omega)] at this
  · refine tail_walk hn hm (fun st => ?_) fun e => hab (.inl e)
    have := h st
    unfold levS at this
    have hc := of_decide_eq_false hc
    rwa [if_neg hab, if_neg h40, if_neg (by omega)] at this

theorem lev_walk (a b : List Nat) (mc : Int) (ha : a.length ≤ 100) (hb : b.length ≤ 100) : f3 1 [.str (strL a), .str (strL b), .int mc] = some (.int (levF price a b mc)) := by
  refine call_wp (sA a b mc) (by kernel_rfl) ?_
  refine wp_if0 (n := 397) (strL a == strL b) (by kernel_rfl) (fun h => ?_) fun h => ?_
  · rw [strL_beq, decide_eq_true_eq] at h
    refine wp_ret (n := 396) (.int 0) (by kernel_rfl) ?_
    simp [Nx, levF, h]
  rw [strL_beq, decide_eq_false_iff_not] at h
  refine wp_set1 (n := 397) (Str.ofString "pre") (.int 0) (sB a b mc 0) [] (by kernel_rfl) (by kernel_rfl) (by kernel_rfl) (by kernel_rfl) (by kernel_rfl) ?_
  refine wp_while (n := 396) (pre_loop ha ?_)
  refine wp_set1 (n := 395) (Str.ofString "a") (.str (strL (a.drop (cp a b)))) (sB (a.drop (cp a b)) b mc (cp a b)) [] (by kernel_rfl) (by kernel_rfl) (by rw [← cut_from]; kernel_rfl) (by kernel_rfl) (by kernel_rfl) ?_
  refine wp_set1 (n := 394) (Str.ofString "b") (.str (strL (b.drop (cp a b)))) (sB (a.drop (cp a b)) (b.drop (cp a b)) mc (cp a b)) [] (by kernel_rfl) (by kernel_rfl) (by rw [← cut_from b]; kernel_rfl) (by kernel_rfl) (by kernel_rfl) ?_
  have hlev : levF price a b mc = levS price mc (cut (a.drop (cp a b)) (cp (a.drop (cp a b)).reverse (b.drop (cp a b)).reverse)) (cut (b.drop (cp a b)) (cp (a.drop (cp a b)).reverse (b.drop (cp a b)).reverse)) := by
    unfold levF; rw [if_neg h]
  rw [hlev]
  have la : (a.drop (cp a b)).length ≤ 100 := by rw [List.length_drop]; exact Nat.le_trans (Nat.sub_le _ _) ha
  have lb : (b.drop (cp a b)).length ≤ 100 := by rw [List.length_drop]; exact Nat.le_trans (Nat.sub_le _ _) hb
  generalize a.drop (cp a b) = a1 at *
  generalize b.drop (cp a b) = b1 at *
  generalize ((cp a b : Nat) : Int) = u
  refine wp_set1 (n := 393) (Str.ofString "post") (.int 0) (sC a1 b1 mc u 0) [] (by kernel_rfl) (by kernel_rfl) (by kernel_rfl) (by kernel_rfl) (by kernel_rfl) ?_
  refine wp_while (n := 392) (post_loop la ?_)
  generalize cp a1.reverse b1.reverse = k
  have la' : (cut a1 k).length ≤ 100 := by rw [cut_length]; exact Nat.le_trans (Nat.sub_le _ _) la
  have lb' : (cut b1 k).length ≤ 100 := by rw [cut_length]; exact Nat.le_trans (Nat.sub_le _ _) lb
  refine wp_set1 (n := 391) (Str.ofString "a") (.str (strL (cut a1 k))) (sC (cut a1 k) b1 mc u k) [] (by kernel_rfl) (by kernel_rfl) ?_ (by kernel_rfl) (by kernel_rfl) ?_
  · cases k with
    | zero => rw [cut_zero]; conv => rhs; rw [← cut_all a1]
              kernel_rfl
    | succ k => rw [cut, ← cut_less _ _ (Nat.succ_pos _)]; kernel_rfl
  refine wp_set1 (n := 390) (Str.ofString "b") (.str (strL (cut b1 k))) (sC (cut a1 k) (cut b1 k) mc u k) [] (by kernel_rfl) (by kernel_rfl) ?_ (by kernel_rfl) (by kernel_rfl) ?_
  · generalize cut a1 k = a2
    cases k with
    | zero => rw [cut_zero]; conv => rhs; rw [← cut_all b1]
              kernel_rfl
    | succ k => rw [cut, ← cut_less _ _ (Nat.succ_pos _)]; kernel_rfl
  exact strip_walk la' lb' fun st => rfl
end Mine

end

section
open PySem PySem.W PyProof.Rows
set_option Elab.async false
namespace Mine
theorem isN3 (x : Int) : f3 3 [.int x] = some (.bool (decide (x ≥ 256))) := by kernel_rfl
noncomputable def rE (s : Stmt) : Expr := (prt s).1
noncomputable def st3 (f i : Nat) : Stmt := (d3 f).body.getD i stN


theorem judged_ok (x : Int) (b : Bool) (h1 : decide (x < 256) = b) (h2 : decide (x ≥ 256) = !b) (h0 : (x == 0) = false) : f3 8 [.int x, .bool b] = some (.bool true) := by
  refine call_wp [(Str.ofString "number", .int x), (Str.ofString "terminal", .bool b)] (by kernel_rfl) ?_
  refine wp_set1 (n := 398) (Str.ofString "told") (.list [.bool b, .bool (!b), .bool false]) [(Str.ofString "number", .int x), (Str.ofString "terminal", .bool b), (Str.ofString "told", .list [.bool b, .bool (!b), .bool false])] [] (by kernel_rfl) (by kernel_rfl) ?_ (by kernel_rfl) (by kernel_rfl) ?_
  · rw [← h1] at h2 ⊢
    rw [← h2, ← h0]
    kernel_rfl
  refine wp_ret (n := 397) (.bool true) ?_ rfl
  clear h1 h2
  cases b <;> kernel_rfl

/-- the law's own price of two signs -/
noncomputable def lp (x y : Nat) : Nat := if x = y then 0 else if (x = 97 ∧ y = 65) ∨ (x = 65 ∧ y = 97) then 1 else 2
theorem lp_ok : PriceOk lp where
  same := fun x => by simp [lp]
  symm := fun x y => by
    unfold lp
    by_cases h : x = y
    · subst h; rfl
    · rw [if_neg h, if_neg (Ne.symm h)]
      exact ite_congr (propext ⟨fun q => q.symm.imp And.symm And.symm, fun q => q.symm.imp And.symm And.symm⟩) (fun _ => rfl) fun _ => rfl
  two := fun x y => by
    unfold lp
    by_cases h : x = y
    · rw [if_pos h]; decide
    · rw [if_neg h]
      by_cases g : (x = 97 ∧ y = 65) ∨ (x = 65 ∧ y = 97)
      · rw [if_pos g]; decide
      · rw [if_neg g]; decide

theorem lp_value (x y : Nat) : ifO (some (strL [x] == strL [y])) (some (.int 0)) (ifO ((bind2 (mkS (strL [x] ++ strL [y])) (some (.tuple [.str (strL [97, 65]), .str (strL [65, 97])])) (cmpD .In)).bind truth) (some (.int 1)) (some (.int 2))) = some (.int (lp x y)) := by
  rw [strL_append, mkS_ok (by simp [lim])]
  show ifO _ _ (ifO (some ((strL [97, 65] == strL ([x] ++ [y])) || ((strL [65, 97] == strL ([x] ++ [y])) || false))) _ _) = _
  rw [strL_beq, strL_beq, strL_beq]
  unfold lp
  by_cases h : x = y
  · subst h; simp [ifO]
  · rw [if_neg h]
    by_cases h' : (x = 97 ∧ y = 65) ∨ (x = 65 ∧ y = 97)
    · rw [if_pos h']
      rcases h' with ⟨rfl, rfl⟩ | ⟨rfl, rfl⟩ <;> simp [ifO]
    · rw [if_neg h']
      have e1 : ¬ ([97, 65] = [x] ++ [y]) := fun e => h' (.inl (by cases e; exact ⟨rfl, rfl⟩))
      have e2 : ¬ ([65, 97] = [x] ++ [y]) := fun e => h' (.inr (by cases e; exact ⟨rfl, rfl⟩))
      have e3 : ¬ ([x] = [y]) := fun e => h (List.cons.inj e).1
      rw [decide_eq_false e1, decide_eq_false e2, decide_eq_false e3]; rfl
theorem over_walk (c : Nat) (t : List Nat) (ht : t.length ≤ 100) : f3 9 [.str (strL [c]), .str (strL t)] = some (.int (over lp c t)) := by
  refine call_wp [(Str.ofString "sign", .str (strL [c])), (Str.ofString "stretch", .str (strL t))] (by kernel_rfl) ?_
  refine wp_if0 (n := 397) (strL t == strL []) (by kernel_rfl) (fun h => ?_) fun h => ?_
  · rw [strL_beq, decide_eq_true_eq] at h
    subst h
    exact wp_ret (n := 396) (.int 2) (by kernel_rfl) rfl
  rw [strL_beq, decide_eq_false_iff_not] at h
  refine wp_set1 (n := 397) (Str.ofString "prices") (.list (t.map fun y => .int (lp c y))) [(Str.ofString "sign", .str (strL [c])), (Str.ofString "stretch", .str (strL t)), (Str.ofString "prices", .list (t.map fun y => .int (lp c y)))] [] (by kernel_rfl) (by kernel_rfl) ?_ (by kernel_rfl) (by kernel_rfl) ?_
  · refine ev_compE (xs := t) (fun y => .str (strL [y])) (fun y => .int (lp c y)) (by kernel_rfl) (by kernel_rfl) (by kernel_rfl) (fun y _ => ?_) (by unfold lim; omega)
    refine Eq.trans (b := (ifO (some (strL [c] == strL [y])) (some (.int 0)) (ifO ((bind2 (mkS (strL [c] ++ strL [y])) (some (.tuple [.str (strL [97, 65]), .str (strL [65, 97])])) (cmpD .In)).bind truth) (some (.int 1)) (some (.int 2)))).map fun d => [d]) (by kernel_rfl) ?_
    rw [lp_value]; rfl
  cases t with
  | nil => exact absurd rfl h
  | cons y t =>
    refine wp_ret (n := 396) (.int ((over lp c (y :: t) : Nat) : Int)) ?_ rfl
    refine Eq.trans (b := bind2 (some (.int (2 * (((y :: t).length : Nat) : Int) - 2))) ((mapI [some (.list ((y :: t).map fun y => .int (lp c y)))]).bind (callB (Str.ofString "min"))) (binD .Add)) (by kernel_rfl) ?_
    have e := min_ok (lp c y) (t.map fun y => ((lp c y : Nat) : Int))
    have e' : ((y :: t).map fun y => D.int (lp c y)) = (((lp c y : Nat) : Int) :: t.map fun y => ((lp c y : Nat) : Int)).map D.int := by simp
    rw [e']
    rw [mapI1, Option.bind_some, e]
    show some (D.int (2 * (((y :: t).length : Nat) : Int) - 2 + _)) = _
    have key : ∀ (l : List Nat) (a : Nat), (l.map fun y => ((lp c y : Nat) : Int)).foldl min (a : Int) = ((l.foldl (fun m z => min m (lp c z)) a : Nat) : Int) := by
      intro l
      induction l with
      | nil => intro a; rfl
      | cons z l ih =>
        intro a
        simp only [List.map_cons, List.foldl_cons]
        rw [show min (a : Int) ((lp c z : Nat) : Int) = ((min a (lp c z) : Nat) : Int) by omega, ih]
    rw [key]
    congr 2
    simp only [over, List.length_cons]
    omega
end Mine

end

section
open PySem PySem.W PyProof.Rows
set_option Elab.async false
namespace Mine

noncomputable def ops : List (List Nat) := [[40], [41], [91], [93], [58], [44], [59], [43], [45], [42], [47], [124], [38], [60], [62], [61], [46], [37], [123], [125], [61, 61], [33, 61], [60, 61], [62, 61], [126], [94], [60, 60], [62, 62], [42, 42], [43, 61], [45, 61], [42, 61], [47, 61], [37, 61], [38, 61], [124, 61], [94, 61], [60, 60, 61], [62, 62, 61], [42, 42, 61], [47, 47], [47, 47, 61], [64], [64, 61], [45, 62], [46, 46, 46], [58, 61], [33]]
noncomputable def opRow : List Nat := [40, 32, 41, 32, 91, 32, 93, 32, 58, 32, 44, 32, 59, 32, 43, 32, 45, 32, 42, 32, 47, 32, 124, 32, 38, 32, 60, 32, 62, 32, 61, 32, 46, 32, 37, 32, 123, 32, 125, 32, 61, 61, 32, 33, 61, 32, 60, 61, 32, 62, 61, 32, 126, 32, 94, 32, 60, 60, 32, 62, 62, 32, 42, 42, 32, 43, 61, 32, 45, 61, 32, 42, 61, 32, 47, 61, 32, 37, 61, 32, 38, 61, 32, 124, 61, 32, 94, 61, 32, 60, 60, 61, 32, 62, 62, 61, 32, 42, 42, 61, 32, 47, 47, 32, 47, 47, 61, 32, 64, 32, 64, 61, 32, 45, 62, 32, 46, 46, 46, 32, 58, 61, 32, 33]
/-- what a terminal's number is written as -/
noncomputable def tx (z : Int) : List Nat := if z = 255 then [97] else if z = 1 then [65] else if z = -1 then [98] else ops.getD (z - 7).toNat []
noncomputable def TZ : List Int := [255, 1, -1] ++ (List.range 48).map fun (i : Nat) => 7 + (i : Int)

theorem ops_split : callM (.str (strL opRow)) (Str.ofString "split") [.str (strL [32])] = some (.list (ops.map fun t => .str (strL t))) := by kernel_rfl
theorem text_op (i : Nat) (hi : i < 48) : f3 5 [.int (7 + (i : Int))] = some (.str (strL (ops.getD i []))) := by
  refine call_wp [(Str.ofString "number", .int (7 + (i : Int)))] (by kernel_rfl) ?_
  refine wp_set1 (n := 398) (Str.ofString "row") (.str (strL opRow)) [(Str.ofString "number", .int (7 + (i : Int))), (Str.ofString "row", .str (strL opRow))] [] (by kernel_rfl) (by kernel_rfl) (by kernel_rfl) (by kernel_rfl) (by kernel_rfl) ?_
  refine wp_ret (n := 397) (.str (strL (ops.getD i []))) ?_ rfl
  generalize hz : (7 + (i : Int)) = z
  refine Eq.trans (b := ifO (some ((255 == z) || ((1 == z) || ((-1 == z) || false)))) (itemD (.dict ([255, 1, -1].map .int) [.str (strL [97]), .str (strL [65]), .str (strL [98])]) (.int z)) (bind2 (callM (.str (strL opRow)) (Str.ofString "split") [.str (strL [32])]) (some (.int (z - 7))) itemD)) (by kernel_rfl) ?_
  have h1 : ((255 : Int) == z) = false := beq_false_of_ne (by omega)
  have h2 : ((1 : Int) == z) = false := beq_false_of_ne (by omega)
  have h3 : ((-1 : Int) == z) = false := beq_false_of_ne (by omega)
  have h4 : z - 7 = (i : Int) := by omega
  rw [h1, h2, h3, ops_split, h4]
  show itemD (.list (ops.map fun t => .str (strL t))) (.int (i : Int)) = _
  have hl : i < ops.length := hi
  show (idxD _ _).bind _ = _
  rw [idx_nat (by rw [List.length_map]; exact hl), Option.bind_some, List.getElem?_map, List.getD_eq_getElem?_getD, List.getElem?_eq_getElem hl]; rfl
theorem text_walk (z : Int) (hz : z ∈ TZ) : f3 5 [.int z] = some (.str (strL (tx z))) := by
  rcases List.mem_append.mp hz with h | h
  · rcases List.mem_cons.mp h with rfl | h
    · kernel_rfl
    rcases List.mem_cons.mp h with rfl | h
    · kernel_rfl
    rw [List.mem_singleton.mp h]
    kernel_rfl
  · obtain ⟨i, hi, rfl⟩ := List.mem_map.mp h
    have hi := List.mem_range.mp hi
    rw [text_op i hi]
    unfold tx
    rw [if_neg (by omega), if_neg (by omega), if_neg (by omega), show (7 + (i : Int) - 7).toNat = i by omega]
theorem tz_facts : ∀ z ∈ TZ, decide (z < 256) = true ∧ decide (z ≥ 256) = false ∧ (z == 0) = false := by decide
end Mine

end

section
open PySem PySem.W PyProof.Rows
set_option Elab.async false
namespace Mine

theorem takeLe {α : Type} (n : Nat) (l : List α) : (l.take n).length ≤ l.length := by rw [List.length_take]; exact Nat.min_le_right _ _
theorem dropLe {α : Type} (n : Nat) (l : List α) : (l.drop n).length ≤ l.length := by rw [List.length_drop]; exact Nat.sub_le _ _
theorem rangeL_ab (a b : Nat) : rangeL (a : Int) (b : Int) 1 = (List.range' a (b - a)).map fun (i : Nat) => (i : Int) := by
  have e : rangeLen (a : Int) (b : Int) 1 = b - a := by
    unfold rangeLen Builtin.Range.rangeSize
    rw [if_pos (by decide)]
    by_cases h : (a : Int) < b
    · rw [if_pos h, Int.ediv_one, Int.sub_add_cancel, ← Int.ofNat_sub (Nat.le_of_lt (Int.ofNat_lt.mp h))]; rfl
    · rw [if_neg h, Nat.sub_eq_zero_of_le (Int.ofNat_le.mp (Int.not_lt.mp h))]; rfl
  unfold rangeL
  rw [e, List.range'_eq_map_range, List.map_map]
  exact List.map_congr_left fun i _ => by rw [Int.mul_one]; rfl
theorem rOk_ab {a b : Nat} (ha : a ≤ 100000) (hb : b ≤ 100000) : rOk (a : Int) (b : Int) 1 = true := decide_eq_true ⟨Nat.le_trans ha (by decide), Nat.le_trans hb (by decide), by decide, by decide⟩
theorem items_ab {a b : Nat} (ha : a ≤ 100000) (hb : b ≤ 100000) : (if rOk (a : Int) (b : Int) 1 = true then some (D.range (a : Int) (b : Int) 1) else none).bind itemsD = some ((List.range (b - a)).map fun (i : Nat) => D.int ((a + i : Nat) : Int)) := by
  rw [if_pos (rOk_ab ha hb)]
  show some ((rangeL (a : Int) (b : Int) 1).map D.int) = _
  rw [rangeL_ab, List.range'_eq_map_range, List.map_map, List.map_map]; rfl
theorem items_n {n : Nat} (h : n ≤ 100000) : (if rOk 0 (n : Int) 1 = true then some (D.range 0 (n : Int) 1) else none).bind itemsD = some ((List.range n).map fun (i : Nat) => D.int i) := by
  rw [if_pos (rOk_nat h)]
  show some ((rangeL 0 (n : Int) 1).map D.int) = _
  rw [rangeL_nat, List.map_map]; rfl

/-- a text's prices to each stretch of the typed one -/
noncomputable def rowT (ty a : List Nat) (i : Nat) : D := .list ((List.range (ty.length + 1 - i)).map fun k => .int ((L lp a ((ty.drop i).take k) : Nat) : Int))
noncomputable def tabD (ty : List Nat) (st : Nat) (a : List Nat) : D := .list ((List.range st).map (rowT ty a))
theorem tab_at {ty a : List Nat} {st i k : Nat} (hi : i < st) (hk : i + k ≤ ty.length) : (itemD (tabD ty st a) (.int (i : Int))).bind (fun d => itemD d (.int (k : Int))) = some (.int ((L lp a ((ty.drop i).take k) : Nat) : Int)) := by
  rw [tabD, item_range _ _ _ hi, Option.bind_some, rowT, item_range _ _ _ (Nat.lt_sub_of_add_lt (by rw [Nat.add_comm]; exact Nat.lt_succ_of_le hk))]

theorem ik_le {n i k : Nat} (h : k < n + 1 - i) : i + k ≤ n := Nat.add_comm i k ▸ Nat.le_of_lt_succ (Nat.add_lt_of_lt_sub h)
theorem len_tk {ty : List Nat} {i k : Nat} (h : i + k ≤ ty.length) : ((ty.drop i).take k).length = k := by
  rw [List.length_take, List.length_drop]; exact Nat.min_eq_left (Nat.le_sub_of_add_le (Nat.add_comm i k ▸ h))
theorem cut_min2 (ty a b : List Nat) (i k : Nat) (h : i + k ≤ ty.length) :
    L lp (a ++ b) ((ty.drop i).take k) ∈ ((List.range (k + 1)).map fun u => L lp a ((ty.drop i).take u) + L lp b ((ty.drop (i + u)).take (k - u))) ∧
      ∀ x ∈ ((List.range (k + 1)).map fun u => L lp a ((ty.drop i).take u) + L lp b ((ty.drop (i + u)).take (k - u))), L lp (a ++ b) ((ty.drop i).take k) ≤ x := by
  have e : ∀ u, u ≤ k → ((ty.drop i).take k).take u = (ty.drop i).take u ∧ ((ty.drop i).take k).drop u = (ty.drop (i + u)).take (k - u) := fun u hu => by
    rw [List.take_take, Nat.min_eq_left hu, List.drop_take, List.drop_drop]; exact ⟨rfl, rfl⟩
  have hlen := len_tk h
  constructor
  · obtain ⟨u, hu, he⟩ := L_split (s := lp) a b ((ty.drop i).take k)
    rw [hlen] at hu
    rw [he, (e u hu).1, (e u hu).2]
    exact List.mem_map.mpr ⟨u, List.mem_range.mpr (Nat.lt_succ_of_le hu), rfl⟩
  · intro x hx
    obtain ⟨u, hu, rfl⟩ := List.mem_map.mp hx
    have hu : u ≤ k := Nat.le_of_lt_succ (List.mem_range.mp hu)
    have := L_split_le (s := lp) a b ((ty.drop i).take k) u
    rwa [(e u hu).1, (e u hu).2] at this

theorem joined_walk (ty a b : List Nat) (st : Nat) (hs : st ≤ ty.length + 1) (hl : ty.length ≤ 100) : f3 10 [tabD ty st a, tabD ty (ty.length + 1) b] = some (tabD ty st (a ++ b)) := by
  have cA : ∀ i k : Nat, i < st → i + k ≤ ty.length → (itemD (tabD ty st a) (.int (i : Int))).bind (fun d => itemD d (.int (k : Int))) = some (.int ((L lp a ((ty.drop i).take k) : Nat) : Int)) := fun i k h g => tab_at h g
  have cB : ∀ i k : Nat, i + k ≤ ty.length → (itemD (tabD ty (ty.length + 1) b) (.int (i : Int))).bind (fun d => itemD d (.int (k : Int))) = some (.int ((L lp b ((ty.drop i).take k) : Nat) : Int)) := fun i k g => tab_at (Nat.lt_succ_of_le (Nat.le_trans (Nat.le_add_right _ _) g)) g
  have lA : lenD (tabD ty st a) = some st := by show some (List.length _) = _; rw [List.length_map, List.length_range]
  have lB : lenD (tabD ty (ty.length + 1) b) = some (ty.length + 1) := by show some (List.length _) = _; rw [List.length_map, List.length_range]
  have hE : tabD ty st (a ++ b) = .list ((List.range st).map (rowT ty (a ++ b))) := rfl
  generalize tabD ty st a = A at *
  generalize tabD ty (ty.length + 1) b = B at *
  have len : ∀ (d : D) (n : Nat), lenD d = some n → callB (Str.ofString "len") [d] = some (.int n) := fun d n h => by
    show (lenD d).map (fun n => D.int n) = _
    rw [h]; rfl
  refine call_wp [(Str.ofString "left", A), (Str.ofString "right", B)] (by kernel_rfl) ?_
  refine wp_set1 (n := 398) (Str.ofString "ends") (.int ((ty.length + 1 : Nat) : Int)) [(Str.ofString "left", A), (Str.ofString "right", B), (Str.ofString "ends", .int ((ty.length + 1 : Nat) : Int))] [] (by kernel_rfl) (by kernel_rfl) ?_ (by kernel_rfl) (by kernel_rfl) ?_
  · refine Eq.trans (b := (mapI [some B]).bind (callB (Str.ofString "len"))) (by kernel_rfl) ?_
    rw [mapI1, Option.bind_some, len _ _ lB]
  refine wp_ret (n := 397) (tabD ty st (a ++ b)) ?_ rfl
  rw [hE]
  refine ev_compE (xs := List.range st) (fun (i : Nat) => .int i) (rowT ty (a ++ b)) (by kernel_rfl) ?_ (by kernel_rfl) (fun i hi => ?_) (by rw [List.length_range]; exact Nat.le_trans hs (Nat.le_trans (Nat.succ_le_succ hl) (by decide)))
  · refine Eq.trans (b := (((mapI [some A]).bind (callB (Str.ofString "len"))).bind fun d => callB (Str.ofString "range") [d]).bind itemsD) (by kernel_rfl) ?_
    rw [mapI1, Option.bind_some, len _ _ lA]
    exact items_n (Nat.le_trans hs (Nat.le_trans (Nat.succ_le_succ hl) (by decide)))
  have hi := List.mem_range.mp hi
  refine compT_name (Str.ofString "i") (by kernel_rfl) ?_
  refine ev_compE (xs := List.range (ty.length + 1 - i)) (fun (k : Nat) => .int ((i + k : Nat) : Int)) (fun k => .int ((L lp (a ++ b) ((ty.drop i).take k) : Nat) : Int)) (by kernel_rfl) ?_ (by kernel_rfl) (fun k hk => ?_) (by rw [List.length_range]; exact Nat.le_trans (Nat.sub_le _ _) (Nat.le_trans (Nat.succ_le_succ hl) (by decide)))
  · refine Eq.trans (b := (if rOk (i : Int) ((ty.length + 1 : Nat) : Int) 1 = true then some (D.range (i : Int) ((ty.length + 1 : Nat) : Int) 1) else none).bind itemsD) (by kernel_rfl) ?_
    exact items_ab (Nat.le_trans (Nat.le_trans (Nat.le_of_lt hi) hs) (Nat.le_trans (Nat.succ_le_succ hl) (by decide))) (Nat.le_trans (Nat.succ_le_succ hl) (by decide))
  have hk := List.mem_range.mp hk
  have hik : i + k ≤ ty.length := ik_le hk
  refine compT_name (Str.ofString "j") (by kernel_rfl) ?_
  refine Eq.trans (ev_callB (ds := [.list ((List.range (k + 1)).map fun u => .int ((L lp a ((ty.drop i).take u) + L lp b ((ty.drop (i + u)).take (k - u)) : Nat) : Int))]) (by kernel_rfl) (by kernel_rfl) (by kernel_rfl) (by decide) (map1 ?_)) ?_
  · refine ev_compE (xs := List.range (k + 1)) (fun (u : Nat) => .int ((i + u : Nat) : Int)) (fun u => .int ((L lp a ((ty.drop i).take u) + L lp b ((ty.drop (i + u)).take (k - u)) : Nat) : Int)) (by kernel_rfl) ?_ (by kernel_rfl) (fun u hu => ?_) (by rw [List.length_range]; exact Nat.le_trans (Nat.succ_le_succ (Nat.le_trans (Nat.le_trans (Nat.le_add_left k i) hik) hl)) (by decide))
    · refine Eq.trans (b := (if rOk (i : Int) (((i + k : Nat) : Int) + 1) 1 = true then some (D.range (i : Int) (((i + k : Nat) : Int) + 1) 1) else none).bind itemsD) (by kernel_rfl) ?_
      have h101 : i + k + 1 ≤ 100000 := Nat.le_trans (Nat.succ_le_succ (Nat.le_trans hik hl)) (by decide)
      have := items_ab (a := i) (b := i + k + 1) (Nat.le_trans (Nat.le_add_right i (k + 1)) h101) h101
      rw [show i + k + 1 - i = k + 1 from Nat.add_sub_cancel_left (n := i) (m := k + 1)] at this
      exact this
    · have hu := List.mem_range.mp hu
      refine compT_name (Str.ofString "m") (by kernel_rfl) ?_
      refine Eq.trans (b := bind2 ((itemD A (.int (i : Int))).bind fun d => itemD d (.int (((i + u : Nat) : Int) - i))) ((itemD B (.int ((i + u : Nat) : Int))).bind fun d => itemD d (.int (((i + k : Nat) : Int) - ((i + u : Nat) : Int)))) (binD .Add)) (by kernel_rfl) ?_
      rw [show ((i + u : Nat) : Int) - i = (u : Int) from (Int.ofNat_sub (Nat.le_add_right i u)).symm.trans (congrArg _ (Nat.add_sub_cancel_left i u)), show ((i + k : Nat) : Int) - ((i + u : Nat) : Int) = ((k - u : Nat) : Int) from (Int.ofNat_sub (Nat.add_le_add_left (Nat.le_of_lt_succ hu) i)).symm.trans (congrArg _ (Nat.add_sub_add_left i k u)), cA i u hi (Nat.le_trans (Nat.add_le_add_left (Nat.le_of_lt_succ hu) i) hik), cB (i + u) (k - u) (by rw [Nat.add_assoc, Nat.add_sub_cancel' (Nat.le_of_lt_succ hu)]; exact hik)]; rfl
  · obtain ⟨h1, h2⟩ := cut_min2 ty a b i k hik
    have := min_nat h1 h2
    rwa [List.map_map] at this
end Mine

end

section
open PySem PySem.W PyProof.Rows
set_option Elab.async false
namespace Mine

/-- texts joined on -/
noncomputable def onto (Tl A : List (List Nat)) : List (List Nat) := Tl.flatMap fun a => A.map (a ++ ·)
noncomputable def foldT : List (List (List Nat)) → List (List Nat) → List (List Nat)
  | [], Tl => Tl
  | A :: r, Tl => foldT r (onto Tl A)
theorem onto_one (Tl : List (List Nat)) (b : List Nat) : onto Tl [b] = Tl.map (· ++ b) := by
  unfold onto
  induction Tl with
  | nil => rfl
  | cons a Tl ih => rw [List.flatMap_cons, ih]; rfl
theorem onto_len {Tl A : List (List Nat)} {n m : Nat} (h : Tl.length ≤ n) (g : A.length ≤ m) : (onto Tl A).length ≤ n * m := by
  have : ∀ Tl : List (List Nat), (onto Tl A).length = Tl.length * A.length := by
    intro Tl
    induction Tl with
    | nil => exact (Nat.zero_mul _).symm
    | cons a Tl ih =>
      have ih : (Tl.flatMap fun a => A.map (a ++ ·)).length = Tl.length * A.length := ih
      show (List.flatMap _ (a :: Tl)).length = _
      rw [List.flatMap_cons, List.length_append, ih, List.length_map, List.length_cons, Nat.succ_mul, Nat.add_comm]
  rw [this]; exact Nat.mul_le_mul h g

/-- what a number of a side gives -/
inductive Ent (ty : List Nat) (Kd Od : D) (z : Int) (A : List (List Nat)) : Prop where
  | t : cmpD .In (.int z) Kd = some (.bool false) → z ∈ TZ → (tx z).length ≤ 5 → (∀ c ∈ tx z, itemD Od (.str (strL [c])) = some (tabD ty (ty.length + 1) [c])) → A = [tx z] → Ent ty Kd Od z A
  | n : cmpD .In (.int z) Kd = some (.bool true) → itemD Kd (.int z) = some (.list (A.map (tabD ty (ty.length + 1)))) → A.length ≤ 10 → Ent ty Kd Od z A

noncomputable def sTb (ty : List Nat) (side : List Int) (Kd Od : D) (st : Nat) (Tl : List (List Nat)) : List (Str × D) :=
  [(Str.ofString "side", .list (side.map .int)), (Str.ofString "known", Kd), (Str.ofString "over", Od), (Str.ofString "ends", .int ((ty.length + 1 : Nat) : Int)), (Str.ofString "starts", .int st), (Str.ofString "tables", .list (Tl.map (tabD ty st)))]
noncomputable abbrev tbF : Stmt := st3 11 1
noncomputable def ifE (s : Stmt) : List Stmt := (prt s).2.2
noncomputable abbrev sgF : Stmt := (ifE ((wB tbF).getD 0 stN)).getD 0 stN

section
variable {ty : List Nat} {side : List Int} {Kd Od : D} {st : Nat} (hs : st ≤ ty.length + 1) (hl : ty.length ≤ 100)
include hs hl
theorem sign_turn {Tl : List (List Nat)} {z : Int} {c m : Nat} {J : PE} {Q : Option D → St → Prop} (ho : itemD Od (.str (strL [c])) = some (tabD ty (ty.length + 1) [c])) (hT : Tl.length ≤ 200000)
    (hQ : ∀ J', Q none (stOf (sTb ty side Kd Od st (Tl.map (· ++ [c])) ++ [(Str.ofString "number", .int z)]) [] J')) :
    ∃ st', bindS (wT sgF) (.str (strL [c])) (stOf (sTb ty side Kd Od st Tl ++ [(Str.ofString "number", .int z)]) [] J) = some st' ∧ WP (exs (k3 11) (m + 20) (d3 11).sc st' (wB sgF)) Q := by
  refine ⟨_, bind1 (l' := (sTb ty side Kd Od st Tl ++ [(Str.ofString "number", .int z)]) ++ [(Str.ofString "sign", .str (strL [c]))]) (o' := []) (Str.ofString "sign") (by kernel_rfl) (by kernel_rfl) (by kernel_rfl), ?_⟩
  refine wp_set1 (n := m + 18) (Str.ofString "tables") (.list ((Tl.map (· ++ [c])).map (tabD ty st))) ((sTb ty side Kd Od st (Tl.map (· ++ [c])) ++ [(Str.ofString "number", .int z)]) ++ [(Str.ofString "sign", .str (strL [c]))]) [] (by kernel_rfl) (by kernel_rfl) ?_ (by kernel_rfl) (by kernel_rfl) (wp_nil ?_)
  · rw [List.map_map]
    refine ev_compE (xs := Tl) (tabD ty st) _ (by kernel_rfl) (by kernel_rfl) (by kernel_rfl) (fun a _ => ?_) (Nat.le_trans hT (by decide))
    refine compT_name (Str.ofString "table") (by kernel_rfl) ?_
    refine Eq.trans (b := (mapI [some (tabD ty st a), itemD Od (.str (strL [c]))]).bind (f3 10)) (by kernel_rfl) ?_
    rw [ho, mapI2, Option.bind_some, joined_walk ty a [c] st hs hl]; rfl
  · rw [stOf_app]; exact hQ _

inductive SgI (ty : List Nat) (side : List Int) (Kd Od : D) (st : Nat) (Tl : List (List Nat)) (z : Int) (cs : List Nat) (rest : List D) (s : St) : Prop where
  | mk (p r : List Nat) (J : PE) : cs = p ++ r → rest = r.map (fun c => .str (strL [c])) → s = stOf (sTb ty side Kd Od st (Tl.map (· ++ p)) ++ [(Str.ofString "number", .int z)]) [] J → SgI ty side Kd Od st Tl z cs rest s

theorem num_turn {Tl A : List (List Nat)} {z : Int} {m : Nat} {J : PE} {Q : Option D → St → Prop} (e : Ent ty Kd Od z A) (hT : Tl.length ≤ 100000)
    (hQ : ∀ J', Q none (stOf (sTb ty side Kd Od st (onto Tl A)) [] J')) :
    ∃ st', bindS (wT tbF) (.int z) (stOf (sTb ty side Kd Od st Tl) [] J) = some st' ∧ WP (exs (k3 11) (m + 60) (d3 11).sc st' (wB tbF)) Q := by
  refine ⟨_, bind1 (l' := sTb ty side Kd Od st Tl ++ [(Str.ofString "number", .int z)]) (o' := []) (Str.ofString "number") (by kernel_rfl) (by kernel_rfl) (by kernel_rfl), ?_⟩
  cases e with
  | n h1 h2 h3 =>
    refine wp_if (n := m + 58) true (Eq.trans (b := (cmpD .In (.int z) Kd).bind truth) (by kernel_rfl) (by rw [h1]; rfl)) (fun _ => ?_) fun q => by cases q
    refine wp_set1 (n := m + 56) (Str.ofString "tables") (.list ((onto Tl A).map (tabD ty st))) (sTb ty side Kd Od st (onto Tl A) ++ [(Str.ofString "number", .int z)]) [] (by kernel_rfl) (by kernel_rfl) ?_ (by kernel_rfl) (by kernel_rfl) (wp_nil (wp_nil ?_))
    · have he : (onto Tl A).map (tabD ty st) = (Tl.map fun a => (A.map fun b => [tabD ty st (a ++ b)]).flatten).flatten := by
        unfold onto
        rw [List.map_flatMap, List.flatMap_def]
        congr 1
        refine List.map_congr_left fun a _ => ?_
        rw [flat_one, List.map_map]; rfl
      have hlen : ((Tl.map fun a => (A.map fun b => [tabD ty st (a ++ b)]).flatten).flatten).length ≤ lim := by
        rw [← he, List.length_map]
        exact Nat.le_trans (onto_len hT h3) (by decide)
      rw [he]
      refine ev_comp22 (xs := Tl) (tabD ty st) _ (by kernel_rfl) (by kernel_rfl) (by kernel_rfl) (fun a _ => ?_) hlen
      refine comp2_name (Str.ofString "table") (xs := A) (tabD ty (ty.length + 1)) (fun b => [tabD ty st (a ++ b)]) (by kernel_rfl) ?_ (by kernel_rfl) (fun b _ => ?_)
      · refine Eq.trans (b := (itemD Kd (.int z)).bind itemsD) (by kernel_rfl) ?_
        rw [h2]; rfl
      · refine compT_name (Str.ofString "other") (by kernel_rfl) ?_
        refine Eq.trans (b := (mapI [some (tabD ty st a), some (tabD ty (ty.length + 1) b)]).bind (f3 10)) (by kernel_rfl) ?_
        rw [mapI2, Option.bind_some, joined_walk ty a b st hs hl]
    · rw [stOf_app]; exact hQ _
  | t h1 h2 h3 h4 h5 =>
    refine wp_if (n := m + 58) false (Eq.trans (b := (cmpD .In (.int z) Kd).bind truth) (by kernel_rfl) (by rw [h1]; rfl)) (fun q => by cases q) fun _ => ?_
    refine wp_for1 (n := m + 56) ((tx z).map fun c => .str (strL [c])) (by kernel_rfl) (by kernel_rfl) ?_ ?_
    · refine Eq.trans (b := ((mapI [some (.int z)]).bind (f3 5)).bind itemsD) (by kernel_rfl) ?_
      rw [mapI1, Option.bind_some, text_walk z h2]; rfl
    have hone : onto Tl A = Tl.map (· ++ tx z) := by rw [h5, onto_one]
    rw [hone] at hQ
    generalize tx z = cs at *
    have key := wp_exf (C := k3 11) (sc := (d3 11).sc) (t := wT sgF) (b := wB sgF) (K := 20) (Q := Nx (k3 11) (m + 57) (d3 11).sc [] (Nx (k3 11) (m + 59) (d3 11).sc [] Q)) (SgI ty side Kd Od st Tl z cs) ?_ ?_
      (cs.map fun c => .str (strL [c])) (m + 35 - cs.length) (stOf (sTb ty side Kd Od st Tl ++ [(Str.ofString "number", .int z)]) [] J) ⟨[], cs, J, rfl, rfl, by rw [show (Tl.map fun x => x ++ []) = Tl by simp]⟩
    · rw [List.length_map, show m + 35 - cs.length + cs.length + (20 + 1) = m + 56 from congrArg (· + 21) (Nat.sub_add_cancel (Nat.le_trans h3 (Nat.le_trans (by decide) (Nat.le_add_left 35 m))))] at key
      exact key
    · rintro d r m st' ⟨p, q, J, e1, e2, rfl⟩
      cases q with
      | nil => cases e2
      | cons c q =>
        obtain ⟨rfl, rfl⟩ := List.cons.inj e2
        refine sign_turn hs hl (h4 c (by rw [e1]; exact List.mem_append_right _ List.mem_cons_self)) (by rw [List.length_map]; exact Nat.le_trans hT (by decide)) fun J' => ⟨p ++ [c], q, J', by rw [e1]; simp, rfl, ?_⟩
        rw [List.map_map, show ((fun x => x ++ [c]) ∘ fun x => x ++ p) = fun x => x ++ (p ++ [c]) from funext fun x => List.append_assoc ..]
    · rintro st' ⟨p, q, J, e1, e2, rfl⟩
      cases q with
      | cons c q => cases e2
      | nil =>
        rw [List.append_nil] at e1
        subst e1
        refine wp_nil (wp_nil ?_)
        rw [stOf_app]; exact hQ _

inductive TbI (ty : List Nat) (side : List Int) (Kd Od : D) (st : Nat) (As : List (List (List Nat))) (rest : List D) (s : St) : Prop where
  | mk (r : List (Int × List (List Nat))) (Tl : List (List Nat)) (J : PE) : rest = r.map (fun p => .int p.1) → (∀ p ∈ r, Ent ty Kd Od p.1 p.2) → Tl.length * 10 ^ r.length ≤ 100000 → foldT As [[]] = foldT (r.map (·.2)) Tl → s = stOf (sTb ty side Kd Od st Tl) [] J → TbI ty side Kd Od st As rest s
theorem tables_walk (ps : List (Int × List (List Nat))) (hp : ∀ p ∈ ps, Ent ty Kd Od p.1 p.2) (h5 : ps.length ≤ 5) : f3 11 [.list ((ps.map (·.1)).map .int), Kd, Od, .int ((ty.length + 1 : Nat) : Int), .int st] = some (.list ((foldT (ps.map (·.2)) [[]]).map (tabD ty st))) := by
  refine call_wp [(Str.ofString "side", .list ((ps.map (·.1)).map .int)), (Str.ofString "known", Kd), (Str.ofString "over", Od), (Str.ofString "ends", .int ((ty.length + 1 : Nat) : Int)), (Str.ofString "starts", .int st)] (by kernel_rfl) ?_
  refine wp_set1 (n := 398) (Str.ofString "tables") (.list (([[]] : List (List Nat)).map (tabD ty st))) (sTb ty (ps.map (·.1)) Kd Od st [[]]) [] (by kernel_rfl) (by kernel_rfl) ?_ (by kernel_rfl) (by kernel_rfl) ?_
  · refine Eq.trans (b := (mapI [ev (k3 11) 397 (d3 11).sc (mkP [(Str.ofString "side", .list ((ps.map (·.1)).map .int)), (Str.ofString "known", Kd), (Str.ofString "over", Od), (Str.ofString "ends", .int ((ty.length + 1 : Nat) : Int)), (Str.ofString "starts", .int st)]) (((asLst (rE (st3 11 0))).getD []).getD 0 eNo)]).bind mkL) (by kernel_rfl) ?_
    have : ev (k3 11) 397 (d3 11).sc (mkP [(Str.ofString "side", .list ((ps.map (·.1)).map .int)), (Str.ofString "known", Kd), (Str.ofString "over", Od), (Str.ofString "ends", .int ((ty.length + 1 : Nat) : Int)), (Str.ofString "starts", .int st)]) (((asLst (rE (st3 11 0))).getD []).getD 0 eNo) = some (tabD ty st []) := by
      unfold tabD
      refine ev_compE (xs := List.range st) (fun (i : Nat) => .int i) (rowT ty []) (by kernel_rfl) ?_ (by kernel_rfl) (fun i hi => ?_) (by rw [List.length_range]; exact Nat.le_trans hs (Nat.le_trans (Nat.succ_le_succ hl) (by decide)))
      · exact Eq.trans (b := (if rOk 0 (st : Int) 1 = true then some (D.range 0 (st : Int) 1) else none).bind itemsD) (by kernel_rfl) (items_n (Nat.le_trans hs (Nat.le_trans (Nat.succ_le_succ hl) (by decide))))
      have hi := List.mem_range.mp hi
      refine compT_name (Str.ofString "i") (by kernel_rfl) ?_
      refine ev_compE (xs := List.range (ty.length + 1 - i)) (fun (k : Nat) => .int k) (fun k => .int ((L lp [] ((ty.drop i).take k) : Nat) : Int)) (by kernel_rfl) ?_ (by kernel_rfl) (fun k hk => ?_) (by rw [List.length_range]; exact Nat.le_trans (Nat.sub_le _ _) (Nat.le_trans (Nat.succ_le_succ hl) (by decide)))
      · refine Eq.trans (b := (if rOk 0 (((ty.length + 1 : Nat) : Int) - i) 1 = true then some (D.range 0 (((ty.length + 1 : Nat) : Int) - i) 1) else none).bind itemsD) (by kernel_rfl) ?_
        rw [show (((ty.length + 1 : Nat) : Int) - i) = ((ty.length + 1 - i : Nat) : Int) from (Int.ofNat_sub (Nat.le_trans (Nat.le_of_lt hi) hs)).symm]
        exact items_n (Nat.le_trans (Nat.sub_le _ _) (Nat.le_trans (Nat.succ_le_succ hl) (by decide)))
      have hk := List.mem_range.mp hk
      refine compT_name (Str.ofString "k") (by kernel_rfl) ?_
      have hlen := len_tk (ik_le hk)
      rw [L_nil_l, hlen]
      exact Eq.trans (b := some (.int (2 * (k : Int)))) (by kernel_rfl) rfl
    rw [this]; rfl
  refine wp_for1 (n := 397) ((ps.map (·.1)).map .int) (by kernel_rfl) (by kernel_rfl) (by kernel_rfl) ?_
  have key := wp_exf (C := k3 11) (sc := (d3 11).sc) (t := wT tbF) (b := wB tbF) (K := 60) (Q := Nx (k3 11) 398 (d3 11).sc ((d3 11).body.drop 2) fun o _ => o.getD .none = .list ((foldT (ps.map (·.2)) [[]]).map (tabD ty st))) (TbI ty (ps.map (·.1)) Kd Od st (ps.map (·.2))) ?_ ?_
    ((ps.map (·.1)).map .int) (336 - ps.length) (stOf (sTb ty (ps.map (·.1)) Kd Od st [[]]) []) ⟨ps, [[]], nil0, by rw [List.map_map]; rfl, hp, by
      rw [List.length_singleton, Nat.one_mul]; exact Nat.pow_le_pow_right (by decide) h5, rfl, rfl⟩
  · rw [List.length_map, List.length_map, show 336 - ps.length + ps.length + (60 + 1) = 397 from congrArg (· + 61) (Nat.sub_add_cancel (Nat.le_trans h5 (by decide)))] at key
    exact key
  · rintro d rest m s ⟨r, Tl, J, e1, e2, e3, e4, rfl⟩
    cases r with
    | nil => cases e1
    | cons p r =>
      obtain ⟨rfl, rfl⟩ := List.cons.inj e1
      have hp0 := e2 p List.mem_cons_self
      have hA : p.2.length ≤ 10 := by
        cases hp0 with
        | t _ _ _ _ h => rw [h]; exact Nat.le_add_left 1 9
        | n _ _ h => exact h
      rw [List.length_cons, Nat.pow_succ] at e3
      have hT : Tl.length ≤ 100000 := Nat.le_trans (Nat.le_mul_of_pos_right _ (Nat.mul_pos (Nat.pow_pos (by decide)) (by decide))) e3
      refine num_turn hs hl hp0 hT fun J' => ⟨r, _, J', rfl, fun p hp => e2 p (List.mem_cons_of_mem _ hp), ?_, e4, rfl⟩
      exact Nat.le_trans (Nat.mul_le_mul_right _ (onto_len (Nat.le_refl _) hA)) (by rw [Nat.mul_assoc, Nat.mul_comm 10]; exact e3)
  · rintro s ⟨r, Tl, J, e1, e2, e3, e4, rfl⟩
    cases r with
    | cons p r => cases e1
    | nil =>
      rw [e4]
      exact wp_ret (n := 396) (.list (Tl.map (tabD ty st))) (by kernel_rfl) rfl
end
end Mine

end

section
open PySem PySem.W PyProof.Rows
set_option Elab.async false
namespace Mine

/-- a dict's comprehension, its keys texts -/
theorem ev_dc {C : Cx} {n : Nat} {sc : Scope} {m : PE} {k v t it : Expr} {scope : Scope} {p : Pos} {α : Type} {xs : List α} (φ K V : α → D) {ks vs : List D} (hs : scopeOk scope sc = true) (hi : itE C n sc m it = some (xs.map φ)) (ht : (targetOk scope t && freshT (inner scope m) t) = true)
    (hg : ∀ x ∈ xs, ∃ m', bindT t (φ x) (inner scope m) = some m' ∧ ev C n (relabelS scope sc) m' k = some (K x) ∧ ev C n (relabelS scope sc) m' v = some (V x) ∧ isStrD (K x) = true) (hl : xs.length ≤ 1000)
    (hd : dictG [] [] (xs.map fun x => (K x, V x)) = some (ks, vs)) : ev C (n + 1) sc m (.DictComp k v [⟨t, it, [], 0⟩] scope p) = some (.dict ks vs) := by
  simp only [Bool.and_eq_true] at ht
  have hG : gensG (ev C n (relabelS scope sc)) (itE C n (relabelS scope sc)) scope (emitG isStrD (ev C n (relabelS scope sc)) k v) [⟨t, it, [], 0⟩] (inner scope m) (xs.map φ) = some (xs.map fun x => [K x, V x]) := by
    unfold gensG
    rw [if_pos ⟨rfl, ht.1, ht.2⟩, mapMD_map, mapMD_ok (g := fun x => [K x, V x])]
    intro x hx
    obtain ⟨m', h1, h2, h3, h4⟩ := hg x hx
    rw [h1]
    simp only [testsG]
    unfold emitG
    rw [h2, h3]
    dsimp only
    rw [h4]; rfl
  have hP : ∀ xs : List α, pairUp ((xs.map fun x => [K x, V x]).flatten) = some (xs.map fun x => (K x, V x)) := by
    intro xs
    induction xs with
    | nil => rfl
    | cons x xs ih =>
      rw [List.map_cons, List.flatten_cons]
      show (pairUp ((xs.map fun x => [K x, V x]).flatten)).map ((K x, V x) :: ·) = _
      rw [ih]; rfl
  have hD : dictOfG (some (xs.map fun x => [K x, V x])) = some (.dict ks vs) := by
    unfold dictOfG
    dsimp only
    rw [hP]
    dsimp only
    rw [if_pos (by rw [List.length_map]; exact hl), hd]; rfl
  show (if scopeOk scope sc = true then (itE C n sc m it).bind fun l => (match dictOfG (gensG (ev C n (relabelS scope sc)) (itE C n (relabelS scope sc)) scope (emitG isStrD (ev C n (relabelS scope sc)) k v) [⟨t, it, [], 0⟩] (inner scope m) l) with
      | some d => some d
      | none => dictOfG (gensG (ev C n (relabelS scope sc)) (itE C n (relabelS scope sc)) scope (emitG isIntD (ev C n (relabelS scope sc)) k v) [⟨t, it, [], 0⟩] (inner scope m) l)) else none) = _
  rw [if_pos hs, hi, Option.bind_some, hG, hD]

/-- signs put into a dict in turn -/
noncomputable def chD (c : Nat) : D := .str (strL [c])
noncomputable def insU (us : List Nat) (c : Nat) : List Nat := if c ∈ us then us else us ++ [c]
theorem one_eq (x y : Nat) : eqS (chD x) (chD y) = some (decide (x = y)) := by
  show some (strL [x] == strL [y]) = _
  rw [strL_beq]
  exact congrArg some (decide_eq_decide.mpr ⟨fun h => (List.cons.inj h).1, fun h => h ▸ rfl⟩)
theorem put_u (F : Nat → D) (c : Nat) : ∀ us : List Nat, putD (us.map chD) (us.map F) (chD c) (F c) = some ((insU us c).map chD, (insU us c).map F)
  | [] => rfl
  | u :: us => by
    show (match eqS (chD u) (chD c) with | some true => some (chD u :: us.map chD, F c :: us.map F) | some false => (putD (us.map chD) (us.map F) (chD c) (F c)).map fun (p : List D × List D) => (chD u :: p.1, F u :: p.2) | none => none) = _
    rw [one_eq, put_u F c us]
    by_cases h : u = c
    · subst h
      rw [decide_eq_true rfl]
      have : insU (u :: us) u = u :: us := by unfold insU; rw [if_pos List.mem_cons_self]
      rw [this]; rfl
    · rw [decide_eq_false h]
      have : insU (u :: us) c = u :: insU us c := by
        unfold insU
        by_cases g : c ∈ us
        · rw [if_pos g, if_pos (List.mem_cons_of_mem _ g)]
        · rw [if_neg g, if_neg (fun q => (List.mem_cons.mp q).elim (fun q => h q.symm) g)]; rfl
      rw [this]; rfl
theorem dict_u (F : Nat → D) : ∀ (cs us : List Nat), dictG (us.map chD) (us.map F) (cs.map fun c => (chD c, F c)) = some ((cs.foldl insU us).map chD, (cs.foldl insU us).map F)
  | [], _ => rfl
  | c :: cs, us => by
    show (match putD (us.map chD) (us.map F) (chD c) (F c) with | none => none | some (ks', vs') => dictG ks' vs' (cs.map fun c => (chD c, F c))) = _
    rw [put_u]
    exact dict_u F cs (insU us c)
theorem fold_mem (c : Nat) : ∀ (cs us : List Nat), (c ∈ us ∨ c ∈ cs) → c ∈ cs.foldl insU us
  | [], us, h => h.elim id fun h => nomatch h
  | d :: cs, us, h => fold_mem c cs (insU us d) (by
    unfold insU
    by_cases g : d ∈ us
    · rw [if_pos g]
      rcases h with h | h
      · exact .inl h
      · rcases List.mem_cons.mp h with rfl | h
        · exact .inl g
        · exact .inr h
    · rw [if_neg g]
      rcases h with h | h
      · exact .inl (List.mem_append_left _ h)
      · rcases List.mem_cons.mp h with rfl | h
        · exact .inl (List.mem_append_right _ List.mem_cons_self)
        · exact .inr h)
theorem look_u (F : Nat → D) (c : Nat) : ∀ us : List Nat, c ∈ us → lookD (us.map chD) (us.map F) (chD c) = some (some (F c))
  | [], h => nomatch h
  | u :: us, h => by
    show (match eqS (chD u) (chD c) with | some true => some (some (F u)) | some false => lookD (us.map chD) (us.map F) (chD c) | none => none) = _
    rw [one_eq]
    by_cases g : u = c
    · subst g; rw [decide_eq_true rfl]
    · rw [decide_eq_false g]
      exact look_u F c us ((List.mem_cons.mp h).resolve_left fun q => g q.symm)
noncomputable def overD (ty : List Nat) (sg : List Nat) : D := .dict ((sg.foldl insU []).map chD) ((sg.foldl insU []).map fun c => tabD ty (ty.length + 1) [c])
theorem over_item {ty sg : List Nat} {c : Nat} (h : c ∈ sg) : itemD (overD ty sg) (.str (strL [c])) = some (tabD ty (ty.length + 1) [c]) := by
  show (if keyKind (chD c) = true then (lookD _ _ (chD c)).bind id else none) = _
  rw [if_pos (show keyKind (chD c) = true from rfl), look_u (fun c => tabD ty (ty.length + 1) [c]) c _ (fold_mem c sg [] (.inr h))]; rfl

/-- a dict of ints -/
noncomputable def lkI : List Int → List D → Int → Option D
  | k :: ks, v :: vs, x => if k = x then some v else lkI ks vs x
  | _, _, _ => none
theorem look_i : ∀ (ks : List Int) (vs : List D) (x : Int), ks.length = vs.length → lookD (ks.map .int) vs (.int x) = some (lkI ks vs x)
  | [], [], _, _ => rfl
  | k :: ks, v :: vs, x, h => by
    show (match eqS (.int k) (.int x) with | some true => some (some v) | some false => lookD (ks.map .int) vs (.int x) | none => none) = _
    show (match (some (k == x) : Option Bool) with | some true => some (some v) | some false => lookD (ks.map .int) vs (.int x) | none => none) = _
    unfold lkI
    by_cases g : k = x
    · rw [if_pos g, beq_iff_eq.mpr g]
    · rw [if_neg g, beq_false_of_ne g]
      exact look_i ks vs x (Nat.succ.inj h)
  | [], _ :: _, _, h => nomatch h
  | _ :: _, [], _, h => nomatch h
noncomputable def knD (ks : List Int) (vs : List D) : D := .dict (ks.map .int) vs
theorem in_i {ks : List Int} {vs : List D} (h : ks.length = vs.length) (x : Int) : cmpD .In (.int x) (knD ks vs) = some (.bool (lkI ks vs x).isSome) := by
  show (if keyKind (.int x) = true then (lookD _ _ (.int x)).map fun r => D.bool r.isSome else none) = _
  rw [if_pos (show keyKind (.int x) = true from rfl), look_i _ _ _ h]; rfl
theorem item_i {ks : List Int} {vs : List D} (h : ks.length = vs.length) (x : Int) : itemD (knD ks vs) (.int x) = lkI ks vs x := by
  show (if keyKind (.int x) = true then (lookD _ _ (.int x)).bind id else none) = _
  rw [if_pos (show keyKind (.int x) = true from rfl), look_i _ _ _ h]; rfl

/-- the numbers of a form -/
noncomputable def nmb (dp : Int) : Sy → Int
  | .t z => z
  | .dn => dp
  | .mi => 257
  | .tp => 256
noncomputable def foD (dp : Int) (s : Form) : D := .list ((s.map (nmb dp)).map .int)
noncomputable def txs (a : List Int) : List Nat := (a.map tx).flatten
theorem txs_app (a b : List Int) : txs (a ++ b) = txs a ++ txs b := by unfold txs; rw [List.map_append, List.flatten_append]
theorem onto_gens (A : List (List Int)) (B : List (List Int)) (Tl : List (List Nat)) : onto (onto Tl (A.map txs)) (B.map txs) = onto Tl ((A.flatMap fun a => B.map (a ++ ·)).map txs) := by
  unfold onto
  rw [List.flatMap_assoc]
  congr 1; funext t
  rw [List.flatMap_map, List.flatMap_map, List.map_flatMap, List.map_flatMap]
  congr 1; funext a
  rw [List.map_map, List.map_map, List.map_map]
  congr 1; funext b
  show (t ++ txs a) ++ txs b = t ++ txs (a ++ b)
  rw [txs_app, List.append_assoc]
theorem onto_nil (Tl : List (List Nat)) : onto Tl [[]] = Tl := by rw [onto_one]; simp
theorem fold_gens (g : Sy → List (List Int)) : ∀ (s : Form) (Tl : List (List Nat)), foldT (s.map fun X => (g X).map txs) Tl = onto Tl ((gens g s).map txs)
  | [], Tl => (onto_nil Tl).symm
  | X :: s, Tl => by
    show foldT (s.map fun X => (g X).map txs) (onto Tl ((g X).map txs)) = _
    rw [fold_gens g s, onto_gens]; rfl
theorem onto_start (B : List (List Nat)) : onto [[]] B = B := by
  show List.flatMap _ [[]] = _
  rw [List.flatMap_cons, List.flatMap_nil, List.append_nil]
  exact List.map_id' B

/-- what a form's tables are -/
theorem form_tables {ty : List Nat} {Kd Od : D} {st : Nat} (hs : st ≤ ty.length + 1) (hl : ty.length ≤ 100) (dp : Int) (g : Sy → List (List Int)) (s : Form) (h5 : s.length ≤ 5) (hE : ∀ X ∈ s, Ent ty Kd Od (nmb dp X) ((g X).map txs)) :
    f3 11 [foD dp s, Kd, Od, .int ((ty.length + 1 : Nat) : Int), .int st] = some (.list (((gens g s).map txs).map (tabD ty st))) := by
  have := tables_walk hs hl (Kd := Kd) (Od := Od) (s.map fun X => (nmb dp X, (g X).map txs)) (fun p hp => by obtain ⟨X, hX, rfl⟩ := List.mem_map.mp hp; exact hE X hX) (by rw [List.length_map]; exact h5)
  have e : (s.map fun X => (nmb dp X, (g X).map txs)).map (·.2) = s.map fun X => (g X).map txs := by rw [List.map_map]; rfl
  have e' : (s.map fun X => (nmb dp X, (g X).map txs)).map (·.1) = s.map (nmb dp) := by rw [List.map_map]; rfl
  rw [e, e', fold_gens, onto_start] at this
  exact this
end Mine

end

section
open PySem PySem.W PyProof.Rows
set_option Elab.async false
namespace Mine

structure GOk (G : Gr) (sg : List Nat) : Prop where
  gr : GrOk G
  len : ∀ s ∈ [G.a0, G.a1, G.b0, G.b1, G.c0, G.c1], s.length ≤ 5
  tz : ∀ s ∈ [G.a0, G.a1, G.b0, G.b1, G.c0, G.c1], ∀ z, Sy.t z ∈ s → z ∈ TZ ∧ (tx z).length ≤ 5 ∧ ∀ c ∈ tx z, c ∈ sg
  nL : (ge1 G .dn).length ≤ 10
  nM : (ge2 G .mi).length ≤ 10
  nT : (ge3 G .tp).length ≤ 100
theorem mapI5 (a b c d e : D) : mapI [some a, some b, some c, some d, some e] = some [a, b, c, d, e] := rfl

theorem txs_one (z : Int) : ([[z]] : List (List Int)).map txs = [tx z] := by
  show [(([z] : List Int).map tx).flatten] = _
  simp
section
variable {G : Gr} {sg ty : List Nat} (ok : GOk G sg) (hl : ty.length ≤ 3) {dp : Int} (hd : 258 ≤ dp)
include ok
theorem ent_t {ks : List Int} {vs : List D} (hk : ks.length = vs.length) (h : ∀ k ∈ ks, 257 ≤ k) {s : Form} (hs : s ∈ [G.a0, G.a1, G.b0, G.b1, G.c0, G.c1]) {z : Int} (hz : Sy.t z ∈ s) {A : List (List Nat)} (hA : A = [tx z]) : Ent ty (knD ks vs) (overD ty sg) z A := by
  obtain ⟨h1, h2, h3⟩ := ok.tz s hs z hz
  have hz : z < 256 := of_decide_eq_true (tz_facts z h1).1
  refine .t ?_ h1 h2 (fun c hc => over_item (h3 c hc)) hA
  rw [in_i hk]
  have : ∀ (ks : List Int) (vs : List D), (∀ k ∈ ks, 257 ≤ k) → lkI ks vs z = none := by
    intro ks
    induction ks with
    | nil => intro vs _; cases vs <;> rfl
    | cons k ks ih =>
      intro vs h
      cases vs with
      | nil => rfl
      | cons v vs =>
        unfold lkI
        rw [if_neg (by have := h k List.mem_cons_self; omega)]
        exact ih vs fun k hk => h k (List.mem_cons_of_mem _ hk)
  rw [this ks vs h]; rfl
include hl
theorem tables_c {s : Form} (hs : s = G.c0 ∨ s = G.c1) : f3 11 [foD dp s, knD [] [], overD ty sg, .int ((ty.length + 1 : Nat) : Int), .int ((ty.length + 1 : Nat) : Int)] = some (.list (((gens ge0 s).map txs).map (tabD ty (ty.length + 1)))) := by
  have hm : s ∈ [G.a0, G.a1, G.b0, G.b1, G.c0, G.c1] := by rcases hs with rfl | rfl <;> simp
  refine form_tables (Nat.le_refl _) (Nat.le_trans hl (by decide)) dp ge0 s (ok.len s hm) fun X hX => ?_
  have hx : dph X = 0 := by rcases hs with rfl | rfl; exact ok.gr.c0 X hX; exact ok.gr.c1 X hX
  obtain ⟨z, rfl⟩ := dph_zero hx
  exact ent_t ok rfl (fun k hk => absurd hk List.not_mem_nil) hm hX (txs_one z)
noncomputable def lowD (G : Gr) (ty : List Nat) : D := .list (((ge1 G .dn).map txs).map (tabD ty (ty.length + 1)))
noncomputable def midD (G : Gr) (ty : List Nat) : D := .list (((ge2 G .mi).map txs).map (tabD ty (ty.length + 1)))
include hd
theorem tables_b {s : Form} (hs : s = G.b0 ∨ s = G.b1) : f3 11 [foD dp s, knD [dp] [lowD G ty], overD ty sg, .int ((ty.length + 1 : Nat) : Int), .int ((ty.length + 1 : Nat) : Int)] = some (.list (((gens (ge1 G) s).map txs).map (tabD ty (ty.length + 1)))) := by
  have hm : s ∈ [G.a0, G.a1, G.b0, G.b1, G.c0, G.c1] := by rcases hs with rfl | rfl <;> simp
  refine form_tables (Nat.le_refl _) (Nat.le_trans hl (by decide)) dp (ge1 G) s (ok.len s hm) fun X hX => ?_
  have hx : dph X ≤ 1 := by rcases hs with rfl | rfl; exact ok.gr.b0.1 X hX; exact ok.gr.b1.1 X hX
  cases X with
  | t z => exact ent_t ok rfl (fun k hk => by rw [List.mem_singleton.mp hk]; omega) hm hX (txs_one z)
  | dn =>
    refine .n ?_ ?_ (by rw [List.length_map]; exact ok.nL)
    · rw [in_i rfl]; show some (D.bool (lkI [dp] [lowD G ty] dp).isSome) = _; unfold lkI; rw [if_pos rfl]; rfl
    · rw [item_i rfl]; show lkI [dp] [lowD G ty] dp = _; unfold lkI; rw [if_pos rfl]; rfl
  | mi => exact absurd hx (by decide)
  | tp => exact absurd hx (by decide)
theorem tables_a {s : Form} (hs : s = G.a0 ∨ s = G.a1) : f3 11 [foD dp s, knD [dp, 257] [lowD G ty, midD G ty], overD ty sg, .int ((ty.length + 1 : Nat) : Int), .int ((1 : Nat) : Int)] = some (.list (((gens (ge2 G) s).map txs).map (tabD ty 1))) := by
  have hm : s ∈ [G.a0, G.a1, G.b0, G.b1, G.c0, G.c1] := by rcases hs with rfl | rfl <;> simp
  refine form_tables (Nat.le_add_left 1 _) (Nat.le_trans hl (by decide)) dp (ge2 G) s (ok.len s hm) fun X hX => ?_
  have hx : dph X ≤ 2 := by rcases hs with rfl | rfl; exact ok.gr.a0.1 X hX; exact ok.gr.a1.1 X hX
  have hne : ¬ dp = 257 := by omega
  cases X with
  | t z => exact ent_t ok rfl (fun k hk => by
      rcases List.mem_cons.mp hk with rfl | hk
      · omega
      · rw [List.mem_singleton.mp hk]; decide) hm hX (txs_one z)
  | dn =>
    refine .n ?_ ?_ (by rw [List.length_map]; exact ok.nL)
    · rw [in_i rfl]; show some (D.bool (lkI [dp, 257] [lowD G ty, midD G ty] dp).isSome) = _; unfold lkI; rw [if_pos rfl]; rfl
    · rw [item_i rfl]; show lkI [dp, 257] [lowD G ty, midD G ty] dp = _; unfold lkI; rw [if_pos rfl]; rfl
  | mi =>
    refine .n ?_ ?_ (by rw [List.length_map]; exact ok.nM)
    · rw [in_i rfl]; show some (D.bool (lkI [dp, 257] [lowD G ty, midD G ty] 257).isSome) = _; unfold lkI; rw [if_neg hne]; rfl
    · rw [item_i rfl]; show lkI [dp, 257] [lowD G ty, midD G ty] 257 = _; unfold lkI; rw [if_neg hne]; rfl
  | tp => exact absurd hx (by decide)

noncomputable def sdD (G : Gr) (dp : Int) : D := .list ([G.a0, G.a1, G.b0, G.b1, G.c0, G.c1].map (foD dp))
noncomputable def sP0 (G : Gr) (dp : Int) (ty sg : List Nat) : List (Str × D) := [(Str.ofString "sides", sdD G dp), (Str.ofString "deep", .int dp), (Str.ofString "typed", .str (strL ty)), (Str.ofString "signs", .str (strL sg))]
noncomputable def sP1 (G : Gr) (dp : Int) (ty sg : List Nat) : List (Str × D) := sP0 G dp ty sg ++ [(Str.ofString "ends", .int ((ty.length + 1 : Nat) : Int))]
noncomputable def sP2 (G : Gr) (dp : Int) (ty sg : List Nat) (O : D) : List (Str × D) := sP1 G dp ty sg ++ [(Str.ofString "over", O)]
noncomputable def sP3 (G : Gr) (dp : Int) (ty sg : List Nat) (O Lo Kn : D) : List (Str × D) := sP2 G dp ty sg O ++ [(Str.ofString "low", Lo), (Str.ofString "known", Kn)]

omit ok hd in
theorem over_val (G : Gr) (dp : Int) (hs : sg.length ≤ 1000) : ev (k3 12) 397 (d3 12).sc (mkP (sP1 G dp ty sg)) (rE (st3 12 1)) = some (overD ty sg) := by
  have hd := dict_u (fun c => tabD ty (ty.length + 1) [c]) sg []
  refine ev_dc (xs := sg) chD chD (fun c => tabD ty (ty.length + 1) [c]) (by kernel_rfl) (by kernel_rfl) (by kernel_rfl) (fun c _ => ⟨_, rfl, by kernel_rfl, ?_, rfl⟩) hs hd
  show ev _ _ _ (upd _ (Str.ofString "sign") (chD c)) _ = _
  unfold tabD
  refine ev_compE (xs := List.range (ty.length + 1)) (fun (i : Nat) => .int i) (rowT ty [c]) (by kernel_rfl) ?_ (by kernel_rfl) (fun i hi => ?_) (by rw [List.length_range]; exact Nat.le_trans (Nat.succ_le_succ hl) (by decide))
  · exact Eq.trans (b := (if rOk 0 ((ty.length + 1 : Nat) : Int) 1 = true then some (D.range 0 ((ty.length + 1 : Nat) : Int) 1) else none).bind itemsD) (by kernel_rfl) (items_n (by omega))
  have hi := List.mem_range.mp hi
  refine compT_name (Str.ofString "i") (by kernel_rfl) ?_
  refine ev_compE (xs := List.range (ty.length + 1 - i)) (fun (k : Nat) => .int ((i + k : Nat) : Int)) (fun k => .int ((L lp [c] ((ty.drop i).take k) : Nat) : Int)) (by kernel_rfl) ?_ (by kernel_rfl) (fun k hk => ?_) (by rw [List.length_range]; exact Nat.le_trans (Nat.sub_le _ _) (Nat.le_trans (Nat.succ_le_succ hl) (by decide)))
  · refine Eq.trans (b := (if rOk (i : Int) ((ty.length + 1 : Nat) : Int) 1 = true then some (D.range (i : Int) ((ty.length + 1 : Nat) : Int) 1) else none).bind itemsD) (by kernel_rfl) ?_
    exact items_ab (by omega) (by omega)
  refine compT_name (Str.ofString "j") (by kernel_rfl) ?_
  refine Eq.trans (b := (mapI [some (.str (strL [c])), some (.str (strL (cutL ty (some (i : Int)) (some ((i + k : Nat) : Int)) 1)))]).bind (f3 9)) (by kernel_rfl) ?_
  rw [cut_mid, Nat.add_sub_cancel_left, mapI2, Option.bind_some, over_walk c _ (Nat.le_trans (takeLe _ _) (Nat.le_trans (dropLe _ _) (Nat.le_trans hl (by decide)))), ← over_L lp_ok]

theorem priced_walk (hs : sg.length ≤ 1000) : f3 12 [sdD G dp, .int dp, .str (strL ty), .str (strL sg)] = some (.list ((ge3 G .tp).map fun a => rowT ty (txs a) 0)) := by
  refine call_wp (sP0 G dp ty sg) (by kernel_rfl) ?_
  refine wp_set1 (n := 398) (Str.ofString "ends") (.int ((ty.length + 1 : Nat) : Int)) (sP1 G dp ty sg) [] (by kernel_rfl) (by kernel_rfl) (by kernel_rfl) (by kernel_rfl) (by kernel_rfl) ?_
  refine wp_set1 (n := 397) (Str.ofString "over") (overD ty sg) (sP2 G dp ty sg (overD ty sg)) [] (by kernel_rfl) (by kernel_rfl) (over_val hl G dp hs) (by kernel_rfl) (by kernel_rfl) ?_
  have c0 := tables_c ok hl (dp := dp) (.inl rfl)
  have c1 := tables_c ok hl (dp := dp) (.inr rfl)
  have b0 := tables_b ok hl hd (.inl rfl)
  have b1 := tables_b ok hl hd (.inr rfl)
  have a0 := tables_a ok hl hd (.inl rfl)
  have a1 := tables_a ok hl hd (.inr rfl)
  generalize overD ty sg = O at *
  have addm : ∀ (A B : List (List Int)), (A ++ B).length ≤ 10 → binD .Add (.list ((A.map txs).map (tabD ty (ty.length + 1)))) (.list ((B.map txs).map (tabD ty (ty.length + 1)))) = some (.list (((A ++ B).map txs).map (tabD ty (ty.length + 1)))) := fun A B h => by
    show mkL (_ ++ _) = _
    rw [mkL_ok (by rw [← List.map_append, ← List.map_append, List.length_map, List.length_map]; exact Nat.le_trans h (by decide)), List.map_append, List.map_append]
  refine wp_set1 (n := 396) (Str.ofString "low") (lowD G ty) (sP2 G dp ty sg O ++ [(Str.ofString "low", lowD G ty)]) [] (by kernel_rfl) (by kernel_rfl) ?_ (by kernel_rfl) (by kernel_rfl) ?_
  · refine Eq.trans (b := bind2 ((mapI [some (foD dp G.c0), some (knD [] []), some O, some (.int ((ty.length + 1 : Nat) : Int)), some (.int ((ty.length + 1 : Nat) : Int))]).bind (f3 11)) ((mapI [some (foD dp G.c1), some (knD [] []), some O, some (.int ((ty.length + 1 : Nat) : Int)), some (.int ((ty.length + 1 : Nat) : Int))]).bind (f3 11)) (binD .Add)) (by kernel_rfl) ?_
    rw [mapI5, mapI5, Option.bind_some, Option.bind_some, c0, c1]
    exact addm _ _ ok.nL
  refine wp_set1 (n := 395) (Str.ofString "known") (knD [dp] [lowD G ty]) (sP3 G dp ty sg O (lowD G ty) (knD [dp] [lowD G ty])) [] (by kernel_rfl) (by kernel_rfl) (by kernel_rfl) (by kernel_rfl) (by kernel_rfl) ?_
  refine wp_set1 (n := 394) (Str.ofString "middle") (midD G ty) (sP3 G dp ty sg O (lowD G ty) (knD [dp] [lowD G ty]) ++ [(Str.ofString "middle", midD G ty)]) [] (by kernel_rfl) (by kernel_rfl) ?_ (by kernel_rfl) (by kernel_rfl) ?_
  · refine Eq.trans (b := bind2 ((mapI [some (foD dp G.b0), some (knD [dp] [lowD G ty]), some O, some (.int ((ty.length + 1 : Nat) : Int)), some (.int ((ty.length + 1 : Nat) : Int))]).bind (f3 11)) ((mapI [some (foD dp G.b1), some (knD [dp] [lowD G ty]), some O, some (.int ((ty.length + 1 : Nat) : Int)), some (.int ((ty.length + 1 : Nat) : Int))]).bind (f3 11)) (binD .Add)) (by kernel_rfl) ?_
    rw [mapI5, mapI5, Option.bind_some, Option.bind_some, b0, b1]
    exact addm _ _ ok.nM
  refine wp_set1 (n := 393) (Str.ofString "known") (knD [dp, 257] [lowD G ty, midD G ty]) (sP3 G dp ty sg O (lowD G ty) (knD [dp, 257] [lowD G ty, midD G ty]) ++ [(Str.ofString "middle", midD G ty)]) [] (by kernel_rfl) (by kernel_rfl) ?_ (by kernel_rfl) (by kernel_rfl) ?_
  · have hne : ¬ dp = 257 := by omega
    have hp : dictG [] [] [(.int dp, lowD G ty), (.int 257, midD G ty)] = some ([.int dp, .int 257], [lowD G ty, midD G ty]) := by
      show (match putD [.int dp] [lowD G ty] (.int 257) (midD G ty) with | none => none | some (ks', vs') => dictG ks' vs' []) = _
      have : putD [.int dp] [lowD G ty] (.int 257) (midD G ty) = some ([.int dp, .int 257], [lowD G ty, midD G ty]) := by
        show (match (some (dp == 257) : Option Bool) with | some true => some ([D.int dp], [midD G ty]) | some false => (putD [] [] (.int 257) (midD G ty)).map fun (p : List D × List D) => (.int dp :: p.1, lowD G ty :: p.2) | none => none) = _
        rw [beq_false_of_ne hne]; rfl
      rw [this]; rfl
    refine Eq.trans (b := (dictG [] [] [(.int dp, lowD G ty), (.int 257, midD G ty)]).map fun (p : List D × List D) => D.dict p.1 p.2) (by kernel_rfl) ?_
    rw [hp]; rfl
  refine wp_ret (n := 392) (.list ((ge3 G .tp).map fun a => rowT ty (txs a) 0)) ?_ rfl
  have hR : ((ge3 G .tp).map fun a => rowT ty (txs a) 0) = ([G.a0, G.a1].map fun s => ((gens (ge2 G) s).map fun a => [rowT ty (txs a) 0]).flatten).flatten := by
    show ((gens (ge2 G) G.a0 ++ gens (ge2 G) G.a1).map _) = _
    simp only [List.map_cons, List.map_nil, List.flatten_cons, List.flatten_nil, List.append_nil, flat_one, List.map_append]
  have hlen : (([G.a0, G.a1].map fun s => ((gens (ge2 G) s).map fun a => [rowT ty (txs a) 0]).flatten).flatten).length ≤ lim := by
    rw [← hR, List.length_map]; exact Nat.le_trans ok.nT (by decide)
  rw [hR]
  refine ev_comp22 (xs := [G.a0, G.a1]) (foD dp) _ (by kernel_rfl) (by kernel_rfl) (by kernel_rfl) (fun s hs => ?_) hlen
  refine comp2_name (Str.ofString "side") (xs := gens (ge2 G) s) (fun a => tabD ty 1 (txs a)) (fun a => [rowT ty (txs a) 0]) (by kernel_rfl) ?_ (by kernel_rfl) (fun a _ => ?_)
  · refine Eq.trans (b := ((mapI [some (foD dp s), some (knD [dp, 257] [lowD G ty, midD G ty]), some O, some (.int ((ty.length + 1 : Nat) : Int)), some (.int ((1 : Nat) : Int))]).bind (f3 11)).bind itemsD) (by kernel_rfl) ?_
    have hm : s = G.a0 ∨ s = G.a1 := by
      rcases List.mem_cons.mp hs with h | h
      · exact .inl h
      · exact .inr (List.mem_singleton.mp h)
    rw [mapI5, Option.bind_some]
    rcases hm with rfl | rfl
    · rw [a0]; show some _ = _; rw [List.map_map]; rfl
    · rw [a1]; show some _ = _; rw [List.map_map]; rfl
  · exact compT_name (Str.ofString "table") (by kernel_rfl) (by kernel_rfl)
end
end Mine

end

section
open PySem PySem.W PyProof.Rows
set_option Elab.async false
namespace Mine

section
variable {C : Cx} {n : Nat} {sc : Scope} {r : List Stmt} {Q : Option D → St → Prop} {l l' : List (Str × D)} {o o' : List (Str × OD)} {J : PE}
theorem wp_own2 (x : Str) (ls : List (List D)) (l' : List (Str × D)) (o' : List (Str × OD)) {np p : Pos} {e : Expr} (hs : storeOk sc x = true) (hh : C.hint p.line = .own2) (he : evF2 C n sc (stOf l o J) e = some ls)
    (hl : delL x l = l') (ho : setL x (.two ls) o = o') (h : WP (exs C (n + 1) sc (stOf l' o' (hide x J)) r) Q) : WP (exs C (n + 2) sc (stOf l o J) (.Assign [.Name x np] e p :: r)) Q := by
  refine wp_own x (.two ls) l' o' ?_ hl ho h
  rw [ex_set, if_pos hs, hh, if_neg (by decide), if_pos rfl, if_neg (by decide), he]; rfl
end
section
variable {C : Cx} {n : Nat} {sc : Scope} {r : List Stmt} {Q : Option D → St → Prop} {l l' : List (Str × D)} {o o' : List (Str × OD)} {J : PE}
theorem wp_append2 (x : Str) (ls : List (List D)) (d : List D) (o' : List (Str × OD)) {xp ap cp p : Pos} {e : Expr} (hp : (ap.endLine == cp.line) = true) (hx : mkO o x = some (.two ls)) (he : evF C n sc (stOf l o J) e = some d) (hd : flat d = true) (hlen : ls.length < lim)
    (hl : delL x l = l) (ho : setL x (.two (ls ++ [d])) o = o') (h : WP (exs C (n + 1) sc (stOf l o' (hide x J)) r) Q) :
    WP (exs C (n + 2) sc (stOf l o J) (.Expr (.Call (.Attribute (.Name x xp) (Str.ofString "append") ap) [e] [] cp) p :: r)) Q := by
  refine wp_own x (.two (ls ++ [d])) l o' ?_ hl ho h
  have hx' : (stOf l o J).o x = some (.two ls) := hx
  rw [ex_meth hp, exN, hx', Option.bind_some]
  show (if Str.ofString "append" = Str.ofString "append" then (evF C n sc (stOf l o J) e).bind _ else _) = _
  rw [if_pos rfl, he, Option.bind_some, if_pos ⟨hlen, hd⟩]
theorem wp_rowP (x : Str) (ls : List (List D)) (lk : List D) (j : Int) (k : Nat) (d : D) (o' : List (Str × OD)) {xp ip ap cp p : Pos} {e i : Expr} (hp : (ap.endLine == cp.line) = true) (hx : mkO o x = some (.two ls)) (hh : C.hint p.line = .plain) (hi : ev C n sc (stOf l o J).all i = some (.int j))
    (he : ev C n sc (mkJ J l) e = some d) (hd : scalar d = true) (hj : idxD ls.length j = some k) (hk : ls[k]? = some lk) (hlen : lk.length < lim) (hl : delL x l = l) (ho : setL x (.two (ls.set k (lk ++ [d]))) o = o') (h : WP (exs C (n + 1) sc (stOf l o' (hide x J)) r) Q) :
    WP (exs C (n + 2) sc (stOf l o J) (.Expr (.Call (.Attribute (.Subscript (.Name x xp) i ip) (Str.ofString "append") ap) [e] [] cp) p :: r)) Q := by
  refine wp_own x (.two (ls.set k (lk ++ [d]))) l o' ?_ hl ho h
  have hx' : (stOf l o J).o x = some (.two ls) := hx
  have he' : evK C n sc (stOf l o J) .plain e = some d := he
  show (if (true && ap.endLine == cp.line) = true then exR C n sc (stOf l o J) (C.hint p.line) x i (Str.ofString "append") e else none) = _
  rw [Bool.true_and, if_pos hp, hh]
  show (((stOf l o J).o x).bind asTwo).bind (fun ls => ((ev C n sc (stOf l o J).all i).bind asInt).bind fun j => (evK C n sc (stOf l o J) .plain e).bind fun d => if Str.ofString "append" = Str.ofString "append" then exR2 (stOf l o J) x ls j d else none) = _
  rw [hx', hi, he']
  show exR2 (stOf l o J) x ls j d = _
  unfold exR2
  rw [hj, Option.bind_some, hk, Option.bind_some, if_pos ⟨hlen, hd⟩]
/-- three names from a triple -/
theorem wp_tup3 (x y z : Str) (d₁ d₂ d₃ : D) (l' : List (Str × D)) (o' : List (Str × OD)) {ts : List Expr} {k : Nat} {tp p : Pos} {e : Expr} (h1 : targetOk sc (.Tuple ts k tp) = true) (h2 : (namesT ts).Nodup) (h3 : (swapQ ts e sc).isSome = true) (hh : C.hint p.line = .plain)
    (he : ev C n sc (mkJ J l) e = some (.tuple [d₁, d₂, d₃])) (hb : bindS (.Tuple ts k tp) (.tuple [d₁, d₂, d₃]) (stOf l o J) = some ((((stOf l o J).set x d₁).set y d₂).set z d₃)) (hl : setL z d₃ (setL y d₂ (setL x d₁ l)) = l') (ho : delL z (delL y (delL x o)) = o')
    (h : WP (exs C (n + 1) sc (stOf l' o' J) r) Q) : WP (exs C (n + 2) sc (stOf l o J) (.Assign [.Tuple ts k tp] e p :: r)) Q := by
  refine wp_cons ⟨none, stOf l' o' J, ?_, h⟩
  rw [ex_tup hh]
  rw [if_pos ⟨h1, h2, h3⟩]
  have he' : evK C n sc (stOf l o J) .plain e = some (.tuple [d₁, d₂, d₃]) := he
  rw [he', Option.bind_some, hb]
  rw [stOf_set, stOf_set, stOf_set, hl, ho]; rfl
end
theorem over_one (x : Str) (od : OD) (J : PE) : overJ (hide x J) [(x, od)] = mkJ J [(x, od.toD)] := by
  funext y
  unfold overJ hide
  by_cases h : y = x
  · subst h
    show (match (if y = y then none else J y) with | some d => some d | none => (if y = y then some od else none).map OD.toD) = if y = y then some od.toD else J y
    rw [if_pos rfl, if_pos rfl, if_pos rfl]; rfl
  · show (match (if y = x then none else J y) with | some d => some d | none => (if y = x then some od else none).map OD.toD) = if y = x then some od.toD else J y
    rw [if_neg h, if_neg h, if_neg h]
    cases J y <;> rfl

/-- the row of numbers read into sides -/
noncomputable def pars : List Int → List (List Int) → List Int → List (List Int)
  | [], ds, c => ds ++ [c]
  | z :: r, ds, c => if z = 0 then pars r (ds ++ [c]) [] else pars r ds (c ++ [z])
theorem pars_side : ∀ (s : List Int) (r : List Int) (ds : List (List Int)) (c : List Int), (∀ z ∈ s, z ≠ 0) → pars (s ++ 0 :: r) ds c = pars r (ds ++ [c ++ s]) []
  | [], r, ds, c, _ => by
    show (if (0 : Int) = 0 then _ else _) = _
    rw [if_pos rfl, List.append_nil]
  | z :: s, r, ds, c, h => by
    show (if z = 0 then _ else pars (s ++ 0 :: r) ds (c ++ [z])) = _
    rw [if_neg (h z List.mem_cons_self), pars_side s r ds _ fun y hy => h y (List.mem_cons_of_mem _ hy), List.append_assoc]; rfl

noncomputable abbrev sidesK : Str := Str.ofString "sides"
noncomputable def inD (l : List (List Int)) : List (List D) := l.map fun s => s.map .int
noncomputable def sF (fl hd : D) : List (Str × D) := [(Str.ofString "flat", fl), (Str.ofString "heads", hd)]
noncomputable def oS (ds : List (List Int)) (c : List Int) : List (Str × OD) := [(sidesK, .two (inD (ds ++ [c])))]
theorem in_last (ds : List (List Int)) (c : List Int) : (inD (ds ++ [c])).length = ds.length + 1 ∧ (inD (ds ++ [c]))[ds.length]? = some (c.map .int) ∧ ∀ z : Int, (inD (ds ++ [c])).set ds.length (c.map .int ++ [.int z]) = inD (ds ++ [c ++ [z]]) := by
  unfold inD
  refine ⟨by rw [List.length_map, List.length_append]; rfl, ?_, fun z => ?_⟩
  · rw [List.getElem?_map, List.getElem?_append_right (Nat.le_refl _), Nat.sub_self]; rfl
  · rw [List.map_append, List.map_append, List.set_append_right _ _ (by rw [List.length_map]; exact Nat.le_refl _), List.length_map, Nat.sub_self]
    show _ ++ [c.map D.int ++ [.int z]] = _ ++ [(c ++ [z]).map D.int]
    rw [List.map_append]; rfl

theorem read_turn {fl hd : D} {ds : List (List Int)} {c : List Int} {z : Int} {m : Nat} {J : PE} {Q : Option D → St → Prop} (h1 : ds.length ≤ 100) (h2 : c.length ≤ 100)
    (hQ : ∀ J', Q none (stOf (sF fl hd) (if z = 0 then oS (ds ++ [c]) [] else oS ds (c ++ [z])) (hide sidesK J'))) :
    ∃ st', bindS (wT (st3 7 1)) (.int z) (stOf (sF fl hd) (oS ds c) (hide sidesK J)) = some st' ∧ WP (exs (k3 7) (m + 20) (d3 7).sc st' (wB (st3 7 1))) Q := by
  obtain ⟨i1, i2, i3⟩ := in_last ds c
  refine ⟨_, bind1 (l' := sF fl hd ++ [(Str.ofString "number", .int z)]) (o' := oS ds c) (Str.ofString "number") (by kernel_rfl) (by kernel_rfl) (by kernel_rfl), ?_⟩
  refine wp_if (n := m + 18) ((z == 0) == true) (by kernel_rfl) (fun hc => ?_) fun hc => ?_
  · have hz : z = 0 := by simpa using hc
    rw [if_pos hz] at hQ
    refine wp_append2 (n := m + 16) sidesK (inD (ds ++ [c])) [] (oS (ds ++ [c]) []) (by kernel_rfl) (by kernel_rfl) (by kernel_rfl) rfl (by rw [i1]; exact Nat.lt_of_le_of_lt (Nat.succ_le_succ h1) (by decide)) (by kernel_rfl) (by show _ = [(sidesK, OD.two (inD ((ds ++ [c]) ++ [[]])))]; rw [inD, inD, List.map_append (l₁ := ds ++ [c])]; rfl) (wp_nil (wp_nil ?_))
    rw [stOf_app, ← hide_keep sidesK _ _ (by kernel_rfl)]; exact hQ _
  · have hz : z ≠ 0 := by simpa using hc
    rw [if_neg hz] at hQ
    refine wp_rowP (n := m + 16) sidesK (inD (ds ++ [c])) (c.map .int) (-1) ds.length (.int z) (oS ds (c ++ [z])) (by kernel_rfl) (by kernel_rfl) (by kernel_rfl) (by kernel_rfl) (by kernel_rfl) rfl ?_ i2 (by rw [List.length_map]; exact Nat.lt_of_le_of_lt h2 (by decide)) (by kernel_rfl) (by show _ = [(sidesK, OD.two (inD (ds ++ [c ++ [z]])))]; rw [← i3 z]; rfl) (wp_nil (wp_nil ?_))
    · have := idx_neg (l := ds.length + 1) (k := 1) (by decide) (Nat.le_add_left 1 _)
      rw [i1]; exact this
    · rw [stOf_app, ← hide_keep sidesK _ _ (by kernel_rfl)]; exact hQ _

inductive RdI (fl hd : D) (S : List (List Int)) (rest : List D) (st : St) : Prop where
  | mk (r : List Int) (ds : List (List Int)) (c : List Int) (J : PE) : rest = r.map .int → ds.length + r.length ≤ 100 → c.length + r.length ≤ 100 → S = pars r ds c → st = stOf (sF fl hd) (oS ds c) (hide sidesK J) → RdI fl hd S rest st
theorem read_loop {fl hd : D} {zs : List Int} {Q : Option D → St → Prop} (h : zs.length ≤ 100) (hQ : ∀ ds c J', ds ++ [c] = pars zs [] [] → Q none (stOf (sF fl hd) (oS ds c) (hide sidesK J'))) :
    WP (exf (k3 7) 397 (d3 7).sc (stOf (sF fl hd) (oS [] []) (hide sidesK nil0)) (wT (st3 7 1)) (wB (st3 7 1)) (zs.map .int)) Q := by
  have key := wp_exf (C := k3 7) (sc := (d3 7).sc) (t := wT (st3 7 1)) (b := wB (st3 7 1)) (K := 20) (Q := Q) (RdI fl hd (pars zs [] [])) ?_ ?_ (zs.map .int) (376 - zs.length) (stOf (sF fl hd) (oS [] []) (hide sidesK nil0)) ⟨zs, [], [], nil0, rfl, by rw [List.length_nil, Nat.zero_add]; exact h, by rw [List.length_nil, Nat.zero_add]; exact h, rfl, rfl⟩
  · rw [List.length_map, show 376 - zs.length + zs.length + (20 + 1) = 397 from congrArg (· + 21) (Nat.sub_add_cancel (Nat.le_trans h (by decide)))] at key
    exact key
  · rintro d rest m st ⟨r, ds, c, J, e1, e2, e3, e4, rfl⟩
    cases r with
    | nil => cases e1
    | cons z r =>
      obtain ⟨rfl, rfl⟩ := List.cons.inj e1
      rw [List.length_cons] at e2 e3
      refine read_turn (Nat.le_trans (Nat.le_add_right _ _) e2) (Nat.le_trans (Nat.le_add_right _ _) e3) fun J' => ?_
      by_cases hz : z = 0
      · rw [if_pos hz]
        exact ⟨r, ds ++ [c], [], J', rfl, by rw [List.length_append, List.length_singleton]; exact Nat.le_trans (Nat.le_of_eq (by rw [Nat.add_assoc, Nat.add_comm 1])) e2, by rw [List.length_nil, Nat.zero_add]; exact Nat.le_trans (Nat.le_trans (Nat.le_succ _) (Nat.le_add_left _ _)) e2, by rw [e4]; show (if z = 0 then _ else _) = _; rw [if_pos hz], rfl⟩
      · rw [if_neg hz]
        exact ⟨r, ds, c ++ [z], J', rfl, Nat.le_trans (Nat.add_le_add_left (Nat.le_succ _) _) e2, by rw [List.length_append, List.length_singleton]; exact Nat.le_trans (Nat.le_of_eq (by rw [Nat.add_assoc, Nat.add_comm 1])) e3, by rw [e4]; show (if z = 0 then _ else _) = _; rw [if_neg hz], rfl⟩
  · rintro st ⟨r, ds, c, J, e1, e2, e3, e4, rfl⟩
    cases r with
    | cons z r => cases e1
    | nil => exact hQ ds c J e4.symm
end Mine

end

section
open PySem PySem.W PyProof.Rows
set_option Elab.async false
namespace Mine

theorem flat_filter (p : Nat → Bool) (f : Nat → D) : ∀ l : List Nat, (l.map fun x => if p x = true then [f x] else []).flatten = (l.filter p).map f
  | [] => rfl
  | x :: r => by
    rw [List.map_cons, List.flatten_cons, flat_filter p f r, List.filter_cons]
    by_cases h : p x = true
    · rw [if_pos h, if_pos h]; rfl
    · rw [if_neg h, if_neg h]; rfl
theorem item0 (d : D) (l : List D) : itemD (.list (d :: l)) (.int 0) = some d := by
  show (idxD (d :: l).length ((0 : Nat) : Int)).bind _ = _
  rw [idx_nat (show 0 < (d :: l).length from Nat.succ_pos _)]; rfl
theorem slice_up (l : List D) (p : Nat) : sliceD (.list l) none (some (p : Int)) 1 = some (.list (l.take p)) := by
  show some (D.list (cutL l none (some (p : Int)) 1)) = _
  rw [cut_upto]
theorem slice_fr (l : List D) (p : Nat) : sliceD (.list l) (some (p : Int)) none 1 = some (.list (l.drop p)) := by
  show some (D.list (cutL l (some (p : Int)) none 1)) = _
  rw [cut_from]
theorem add_l {a b : List D} (h : (a ++ b).length ≤ lim) : binD .Add (.list a) (.list b) = some (.list (a ++ b)) := mkL_ok h

/-- where those stand that give way -/
noncomputable def plc (r : Form) : List Nat := (List.range r.length).filter fun i => !tOk (r.getD i (.t 0))
theorem plc_cons (X : Sy) (r : Form) : plc (X :: r) = (if tOk X = true then [] else [0]) ++ (plc r).map Nat.succ := by
  unfold plc
  rw [List.length_cons, List.range_succ_eq_map, List.filter_cons, List.filter_map]
  have e : (fun i => !tOk ((X :: r).getD i (.t 0))) ∘ Nat.succ = fun i => !tOk (r.getD i (.t 0)) := rfl
  rw [e]
  show (if (!tOk X) = true then _ else _) = _
  cases h : tOk X <;> rfl
inductive PlcS (G : Gr) (r : Form) : Prop where
  | none : plc r = [] → stp G r = [r] → PlcS G r
  | some (p : Nat) (ps : List Nat) (X : Sy) : plc r = p :: ps → r[p]? = some X → tOk X = false → stp G r = (twoS G X).map (fun s => (r.take p ++ s) ++ r.drop (p + 1)) → PlcS G r
theorem plc_nt (G : Gr) (X : Sy) (r : Form) (h : tOk X = false) (hs : stp G (X :: r) = (twoS G X).map (· ++ r)) : PlcS G (X :: r) :=
  .some 0 ((plc r).map Nat.succ) X (by rw [plc_cons, h]; rfl) rfl h (by rw [hs]; rfl)
theorem plc_spec (G : Gr) : ∀ r : Form, PlcS G r
  | [] => .none rfl rfl
  | .dn :: r => plc_nt G .dn r rfl rfl
  | .mi :: r => plc_nt G .mi r rfl rfl
  | .tp :: r => plc_nt G .tp r rfl rfl
  | .t z :: r => by
    have hp : plc (.t z :: r) = (plc r).map Nat.succ := by rw [plc_cons]; rfl
    have hs : stp G (.t z :: r) = (stp G r).map (.t z :: ·) := rfl
    cases plc_spec G r with
    | none h1 h2 => exact .none (by rw [hp, h1]; rfl) (by rw [hs, h2]; rfl)
    | some p ps X h1 h2 h3 h4 => exact .some (p + 1) (ps.map Nat.succ) X (by rw [hp, h1]; rfl) h2 h3 (by rw [hs, h4, List.map_map]; rfl)

structure FoOk (r : Form) : Prop where
  len : r.length ≤ 30
  tz : ∀ z, Sy.t z ∈ r → z ∈ TZ
noncomputable def foD' (dp : Int) (r : Form) : List D := (r.map (nmb dp)).map .int
theorem fo_item {dp : Int} {r : Form} {i : Nat} {X : Sy} (h : r[i]? = some X) : itemD (.list (foD' dp r)) (.int (i : Int)) = some (.int (nmb dp X)) := by
  show (idxD _ _).bind _ = _
  rw [idx_nat (by rw [foD', List.length_map, List.length_map]; exact (List.getElem?_eq_some_iff.mp h).1), Option.bind_some, foD', List.getElem?_map, List.getElem?_map, h]; rfl
theorem nt_big {dp : Int} (hd : 258 ≤ dp) : ∀ X : Sy, tOk X = false → 256 ≤ nmb dp X
  | .t _, h => nomatch h
  | .dn, _ => Int.le_trans (by decide) hd
  | .mi, _ => (by decide : (256 : Int) ≤ 257)
  | .tp, _ => (by decide : (256 : Int) ≤ 256)
theorem isn_at {dp : Int} {r : Form} (hd : 258 ≤ dp) (hr : FoOk r) {i : Nat} (h : i < r.length) : (decide (nmb dp (r.getD i (.t 0)) ≥ 256) == true) = !tOk (r.getD i (.t 0)) := by
  have hm : r.getD i (.t 0) ∈ r := by rw [List.getD_eq_getElem?_getD, List.getElem?_eq_getElem h]; exact List.getElem_mem h
  generalize r.getD i (.t 0) = X at hm ⊢
  cases ht : tOk X with
  | false => rw [show decide (nmb dp X ≥ 256) = true from decide_eq_true (nt_big hd X ht)]; rfl
  | true =>
    cases X with
    | t z => rw [show decide (nmb dp (.t z) ≥ 256) = false from (tz_facts z (hr.tz z hm)).2.1]; rfl
    | _ => cases ht

noncomputable def rwD (dp : Int) (R : List Form) : List D := R.map fun r => .list (foD' dp r)
noncomputable def hdD (dp : Int) : D := .list [.int 256, .int 257, .int dp]
noncomputable def sdL (G : Gr) (dp : Int) : D := .list ([G.a0, G.a1, G.b0, G.b1, G.c0, G.c1].map (foD dp) ++ [.list []])
noncomputable def sV (fl : D) (G : Gr) (dp : Int) (R : List Form) : List (Str × D) := [(Str.ofString "flat", fl), (Str.ofString "heads", hdD dp), (Str.ofString "rows", .list (rwD dp R)), (Str.ofString "sides", sdL G dp)]
noncomputable abbrev grownK : Str := Str.ofString "grown"
noncomputable def oG (dp : Int) (R : List Form) : List (Str × OD) := [(grownK, .one (rwD dp R))]
noncomputable abbrev drI : Stmt := (wB (st3 7 3)).getD 1 stN
noncomputable abbrev krF : Stmt := (ifE ((wB drI).getD 1 stN)).getD 1 stN
noncomputable def sW (fl : D) (G : Gr) (dp : Int) (R : List Form) (rw' pl : D) (u v : Form) (X : Int) : List (Str × D) :=
  sV fl G dp R ++ [(Str.ofString "row", rw'), (Str.ofString "places", pl), (Str.ofString "ahead", .list (foD' dp u)), (Str.ofString "inner", .int X), (Str.ofString "behind", .list (foD' dp v))]
noncomputable def pick (G : Gr) : Nat → List Form
  | 0 => [G.a0, G.a1]
  | 1 => [G.b0, G.b1]
  | _ => [G.c0, G.c1]
theorem rwD_app (dp : Int) (G G' : List Form) : rwD dp (G ++ G') = rwD dp G ++ rwD dp G' := List.map_append

/-- the sides put in, where the head is the one -/
theorem ext_step {fl : D} {G : Gr} {dp X : Int} {R B ss : List Form} {rw' pl : D} {u v : Form} {m : Nat} {k : Nat} {J : PE} {e : Expr} {ap cp p xp : Pos} {rest : List Stmt} {Q : Option D → St → Prop}
    (hp : (ap.endLine == cp.line) = true) (hh : (k3 7).hint p.line = .plain) (he : ev (k3 7) (m + 8) (d3 7).sc (mkJ (hide grownK J) (sW fl G dp R rw' pl u v X ++ [(Str.ofString "k", .int k)])) e = some (.list (ss.map fun s => .list (foD' dp ((u ++ s) ++ v))))) (hB : B.length ≤ 1000) (h2 : ss.length ≤ 10)
    (h : WP (exs (k3 7) (m + 9) (d3 7).sc (stOf (sW fl G dp R rw' pl u v X ++ [(Str.ofString "k", .int k)]) (oG dp (B ++ ss.map fun s => (u ++ s) ++ v)) (hide grownK (hide grownK J))) rest) Q) :
    WP (exs (k3 7) (m + 10) (d3 7).sc (stOf (sW fl G dp R rw' pl u v X ++ [(Str.ofString "k", .int k)]) (oG dp B) (hide grownK J)) (.Expr (.Call (.Attribute (.Name grownK xp) (Str.ofString "extend") ap) [e] [] cp) p :: rest)) Q := by
  refine wp_extend (n := m + 8) grownK (rwD dp B) (ss.map fun s => .list (foD' dp ((u ++ s) ++ v))) (oG dp (B ++ ss.map fun s => (u ++ s) ++ v)) hp (by kernel_rfl) hh he (by rw [rwD, List.length_map, List.length_map]; exact Nat.lt_of_le_of_lt (Nat.add_le_add hB h2) (by decide)) (by kernel_rfl) ?_ h
  show _ = [(grownK, OD.one (rwD dp (B ++ ss.map fun s => (u ++ s) ++ v)))]
  rw [rwD_app]
  have : rwD dp (ss.map fun s => (u ++ s) ++ v) = ss.map fun s => .list (foD' dp ((u ++ s) ++ v)) := by rw [rwD, List.map_map]; rfl
  rw [this]; rfl

theorem side_comp {dp : Int} {u v : Form} (hu : u.length ≤ 30) (hv : v.length ≤ 30) {s : Form} (hs : s.length ≤ 5) : bind2 (binD .Add (.list (foD' dp u)) (foD dp s)) (some (.list (foD' dp v))) (binD .Add) = some (.list (foD' dp ((u ++ s) ++ v))) := by
  have e1 : binD .Add (.list (foD' dp u)) (foD dp s) = some (.list (foD' dp (u ++ s))) := by
    show binD .Add (.list (foD' dp u)) (.list (foD' dp s)) = _
    rw [add_l (by rw [foD', foD', List.length_append, List.length_map, List.length_map, List.length_map, List.length_map]; exact Nat.le_trans (Nat.add_le_add hu hs) (by decide))]
    unfold foD'; rw [List.map_append, List.map_append]
  rw [e1]
  show binD .Add (.list (foD' dp (u ++ s))) (.list (foD' dp v)) = _
  rw [add_l (by rw [foD', foD', List.length_append, List.length_map, List.length_map, List.length_map, List.length_map, List.length_append]; exact Nat.le_trans (Nat.add_le_add (Nat.add_le_add hu hs) hv) (by decide))]
  unfold foD'; rw [List.map_append (l₁ := u ++ s), List.map_append (l₁ := (u ++ s).map _)]

theorem pick_len {G : Gr} (hs : ∀ s ∈ [G.a0, G.a1, G.b0, G.b1, G.c0, G.c1], s.length ≤ 5) : ∀ k, ∀ s ∈ pick G k, s.length ≤ 5
  | 0, s, h => hs s (List.mem_of_mem_take (i := 2) h)
  | 1, s, h => hs s (List.mem_of_mem_drop (i := 2) (List.mem_of_mem_take (i := 2) (l := [G.b0, G.b1, G.c0, G.c1]) h))
  | _ + 2, s, h => hs s (List.mem_of_mem_drop (i := 4) h)
theorem k_turn {fl : D} {G : Gr} {dp X : Int} {R B : List Form} {rw' pl : D} {u v : Form} {m k : Nat} {c : Bool} {J : PE} {Q : Option D → St → Prop} (hk : k < 3) (hc : (([256, 257, dp] : List Int).getD k 0 == X) = c) (hs : ∀ s ∈ [G.a0, G.a1, G.b0, G.b1, G.c0, G.c1], s.length ≤ 5) (hu : u.length ≤ 30) (hv : v.length ≤ 30) (hB : B.length ≤ 1000)
    (hQ : ∀ J', Q none (stOf (sW fl G dp R rw' pl u v X) (oG dp (B ++ (if c = true then pick G k else []).map fun s => (u ++ s) ++ v)) (hide grownK J'))) :
    ∃ st', bindS (wT krF) (.int (k : Int)) (stOf (sW fl G dp R rw' pl u v X) (oG dp B) (hide grownK J)) = some st' ∧ WP (exs (k3 7) (m + 20) (d3 7).sc st' (wB krF)) Q := by
  refine ⟨_, bind1 (l' := sW fl G dp R rw' pl u v X ++ [(Str.ofString "k", .int k)]) (o' := oG dp B) (Str.ofString "k") (by kernel_rfl) (by kernel_rfl) (by kernel_rfl), ?_⟩
  have fin0 : c = false → WP (exs (k3 7) (m + 19) (d3 7).sc (stOf (sW fl G dp R rw' pl u v X ++ [(Str.ofString "k", .int k)]) (oG dp B) (hide grownK J)) []) Q := fun h => by
    refine wp_nil ?_
    rw [h, if_neg (by decide), List.map_nil, List.append_nil] at hQ
    rw [stOf_app, ← hide_keep grownK _ _ (by kernel_rfl)]
    exact hQ _
  have fin1 : c = true → Nx (k3 7) (m + 19) (d3 7).sc [] Q none (stOf (sW fl G dp R rw' pl u v X ++ [(Str.ofString "k", .int k)]) (oG dp (B ++ (pick G k).map fun s => (u ++ s) ++ v)) (hide grownK (hide grownK J))) := fun h => by
    refine wp_nil ?_
    rw [h, if_pos rfl] at hQ
    rw [stOf_app, ← hide_keep grownK _ _ (by kernel_rfl)]
    exact hQ _
  have hpk := pick_len hs k
  rcases ((by decide : ∀ n < 3, n = 0 ∨ n = 1 ∨ n = 2) k hk) with rfl | rfl | rfl
  · refine wp_if0 (n := m + 17) c (Eq.trans (b := some ((256 : Int) == X)) (by kernel_rfl) (congrArg some hc)) (fun h => ?_) fun h => fin0 h
    refine ext_step (m := m + 8) (ss := pick G 0) (by kernel_rfl) (by kernel_rfl) ?_ hB (by show 2 ≤ 10; decide) (wp_nil (fin1 h))
    refine ev_compE (xs := pick G 0) (foD dp) (fun s => .list (foD' dp ((u ++ s) ++ v))) (by kernel_rfl) (by kernel_rfl) (by kernel_rfl) (fun s h => ?_) (by show 2 ≤ lim; decide)
    refine compT_name (Str.ofString "side") (by kernel_rfl) (Eq.trans (b := bind2 (binD .Add (.list (foD' dp u)) (foD dp s)) (some (.list (foD' dp v))) (binD .Add)) (by kernel_rfl) (side_comp hu hv (hpk s h)))
  · refine wp_if0 (n := m + 17) c (Eq.trans (b := some ((257 : Int) == X)) (by kernel_rfl) (congrArg some hc)) (fun h => ?_) fun h => fin0 h
    refine ext_step (m := m + 8) (ss := pick G 1) (by kernel_rfl) (by kernel_rfl) ?_ hB (by show 2 ≤ 10; decide) (wp_nil (fin1 h))
    refine ev_compE (xs := pick G 1) (foD dp) (fun s => .list (foD' dp ((u ++ s) ++ v))) (by kernel_rfl) (by kernel_rfl) (by kernel_rfl) (fun s h => ?_) (by show 2 ≤ lim; decide)
    refine compT_name (Str.ofString "side") (by kernel_rfl) (Eq.trans (b := bind2 (binD .Add (.list (foD' dp u)) (foD dp s)) (some (.list (foD' dp v))) (binD .Add)) (by kernel_rfl) (side_comp hu hv (hpk s h)))
  · refine wp_if0 (n := m + 17) c (Eq.trans (b := some (dp == X)) (by kernel_rfl) (congrArg some hc)) (fun h => ?_) fun h => fin0 h
    refine ext_step (m := m + 8) (ss := pick G 2) (by kernel_rfl) (by kernel_rfl) ?_ hB (by show 2 ≤ 10; decide) (wp_nil (fin1 h))
    refine ev_compE (xs := pick G 2) (foD dp) (fun s => .list (foD' dp ((u ++ s) ++ v))) (by kernel_rfl) (by kernel_rfl) (by kernel_rfl) (fun s h => ?_) (by show 2 ≤ lim; decide)
    refine compT_name (Str.ofString "side") (by kernel_rfl) (Eq.trans (b := bind2 (binD .Add (.list (foD' dp u)) (foD dp s)) (some (.list (foD' dp v))) (binD .Add)) (by kernel_rfl) (side_comp hu hv (hpk s h)))
end Mine

end

section
open PySem PySem.W PyProof.Rows
set_option Elab.async false
namespace Mine

theorem flags {G : Gr} {dp : Int} (hd : 258 ≤ dp) : ∀ X : Sy, tOk X = false → ∃ c0 c1 c2 : Bool, ((256 : Int) == nmb dp X) = c0 ∧ ((257 : Int) == nmb dp X) = c1 ∧ (dp == nmb dp X) = c2 ∧
    ∀ (B : List Form) (f : Form → Form), ((B ++ (if c0 = true then pick G 0 else []).map f) ++ (if c1 = true then pick G 1 else []).map f) ++ (if c2 = true then pick G 2 else []).map f = B ++ (twoS G X).map f
  | .t _, h => nomatch h
  | .tp, _ => ⟨true, false, false, rfl, rfl, beq_false_of_ne (show dp ≠ 256 from Int.ne_of_gt (Int.lt_of_lt_of_le (by decide) hd)), fun B f => by rw [if_pos rfl, if_neg (by decide), if_neg (by decide), List.map_nil, List.append_nil, List.append_nil]; rfl⟩
  | .mi, _ => ⟨false, true, false, rfl, rfl, beq_false_of_ne (show dp ≠ 257 from Int.ne_of_gt (Int.lt_of_lt_of_le (by decide) hd)), fun B f => by rw [if_pos rfl, if_neg (by decide), if_neg (by decide), List.map_nil, List.append_nil, List.append_nil]; rfl⟩
  | .dn, _ => ⟨false, false, true, beq_false_of_ne (show (256 : Int) ≠ dp from Int.ne_of_lt (Int.lt_of_lt_of_le (by decide) hd)), beq_false_of_ne (show (257 : Int) ≠ dp from Int.ne_of_lt (Int.lt_of_lt_of_le (by decide) hd)), beq_self_eq_true dp, fun B f => by rw [if_pos rfl, if_neg (by decide), if_neg (by decide), List.map_nil, List.append_nil, List.append_nil]; rfl⟩

theorem drv_turn {fl : D} {G : Gr} {dp : Int} {R B : List Form} {r : Form} {m : Nat} {J : PE} {Q : Option D → St → Prop} (hd : 258 ≤ dp) (hr : FoOk r) (hs : ∀ s ∈ [G.a0, G.a1, G.b0, G.b1, G.c0, G.c1], s.length ≤ 5) (hB : B.length ≤ 300)
    (hQ : ∀ J', Q none (stOf (sV fl G dp R) (oG dp (B ++ stp G r)) (hide grownK J'))) :
    ∃ st', bindS (wT drI) (.list (foD' dp r)) (stOf (sV fl G dp R) (oG dp B) (hide grownK J)) = some st' ∧ WP (exs (k3 7) (m + 60) (d3 7).sc st' (wB drI)) Q := by
  have hl := hr.len
  have hrl : (foD' dp r).length = r.length := by rw [foD', List.length_map, List.length_map]
  have hBl : (rwD dp B).length = B.length := List.length_map _
  refine ⟨_, bind1 (l' := sV fl G dp R ++ [(Str.ofString "row", .list (foD' dp r))]) (o' := oG dp B) (Str.ofString "row") (by kernel_rfl) (by kernel_rfl) (by kernel_rfl), ?_⟩
  refine wp_set1 (n := m + 58) (Str.ofString "places") (.list ((plc r).map fun (k : Nat) => .int k)) (sV fl G dp R ++ [(Str.ofString "row", .list (foD' dp r)), (Str.ofString "places", .list ((plc r).map fun (k : Nat) => .int k))]) (oG dp B) (by kernel_rfl) (by kernel_rfl) ?_ (by kernel_rfl) (by kernel_rfl) ?_
  · unfold plc
    rw [← flat_filter]
    refine ev_comp (xs := List.range r.length) (fun (k : Nat) => .int k) (fun k => if (!tOk (r.getD k (.t 0))) = true then [D.int k] else []) (by kernel_rfl) ?_ (by kernel_rfl) (fun k hk => ?_) ?_
    · refine Eq.trans (b := (if rOk 0 ((foD' dp r).length : Int) 1 = true then some (D.range 0 ((foD' dp r).length : Int) 1) else none).bind itemsD) (by kernel_rfl) ?_
      rw [hrl]; exact items_n (Nat.le_trans hl (by decide))
    · have hk := List.mem_range.mp hk
      refine compT_if (Str.ofString "place") (by kernel_rfl) ?_ fun _ => by kernel_rfl
      refine Eq.trans (b := (bind2 ((mapI [itemD (.list (foD' dp r)) (.int (k : Int))]).bind (f3 3)) (some (.bool true)) (cmpD .Is)).bind truth) (by kernel_rfl) ?_
      have hX : r[k]? = some (r.getD k (.t 0)) := by rw [List.getD_eq_getElem?_getD, List.getElem?_eq_getElem hk]; rfl
      rw [fo_item hX, mapI1, Option.bind_some, isN3]
      show some (decide _ == true) = _
      rw [isn_at hd hr hk]
    · rw [flat_filter, List.length_map]
      exact Nat.le_trans (List.length_filter_le _ _) (by rw [List.length_range]; exact Nat.le_trans hl (by decide))
  cases plc_spec G r with
  | none h1 h2 =>
    rw [h1]
    rw [h2] at hQ
    refine wp_if (n := m + 57) true (by kernel_rfl) (fun _ => ?_) fun q => by cases q
    refine wp_append (n := m + 55) grownK (rwD dp B) (.list (foD' dp r)) (oG dp (B ++ [r])) (by kernel_rfl) (by kernel_rfl) (by kernel_rfl) (by kernel_rfl) (by rw [hBl]; exact Nat.lt_of_le_of_lt hB (by decide)) (by kernel_rfl) (by show _ = [(grownK, OD.one (rwD dp (B ++ [r])))]; rw [rwD_app]; rfl) (wp_nil (wp_nil ?_))
    rw [stOf_app, ← hide_keep grownK _ _ (by kernel_rfl)]
    exact hQ _
  | some p ps X h1 h2 h3 h4 =>
    rw [h1]
    rw [h4] at hQ
    have hta : (foD' dp r).take p = foD' dp (r.take p) := by rw [foD', foD', List.map_take, List.map_take]
    have hdr : (foD' dp r).drop (p + 1) = foD' dp (r.drop (p + 1)) := by rw [foD', foD', List.map_drop, List.map_drop]
    have hX0 : itemD (.list ((p :: ps).map fun (k : Nat) => .int k)) (.int 0) = some (.int p) := item0 _ _
    have hne : decide (((p :: ps).map fun (k : Nat) => D.int k) = []) = false := decide_eq_false (List.cons_ne_nil _ _)
    generalize ((p :: ps).map fun (k : Nat) => D.int k) = P at hX0 hne ⊢
    refine wp_if (n := m + 57) false ?_ (fun q => by cases q) fun _ => ?_
    · refine Eq.trans (b := (cmpD .Eq (.list P) (.list [])).bind truth) (by kernel_rfl) ?_
      rw [eq_nil, hne]; rfl
    have la : (r.take p).length ≤ 30 := Nat.le_trans (takeLe _ _) hl
    have lb : (r.drop (p + 1)).length ≤ 30 := Nat.le_trans (dropLe _ _) hl
    refine wp_tup3 (n := m + 55) (Str.ofString "ahead") (Str.ofString "inner") (Str.ofString "behind") (.list (foD' dp (r.take p))) (.int (nmb dp X)) (.list (foD' dp (r.drop (p + 1)))) (sW fl G dp R (.list (foD' dp r)) (.list P) (r.take p) (r.drop (p + 1)) (nmb dp X)) (oG dp B) (by kernel_rfl) (by decide +kernel) (by kernel_rfl) (by kernel_rfl) ?_ (by kernel_rfl) (by kernel_rfl) (by kernel_rfl) ?_
    · refine Eq.trans (b := (mapI [((itemD (.list P) (.int 0)).map some).bind fun b => (partD b).bind fun y => sliceD (.list (foD' dp r)) none y 1, (itemD (.list P) (.int 0)).bind fun j => itemD (.list (foD' dp r)) j, ((bind2 (itemD (.list P) (.int 0)) (some (.int 1)) (binD .Add)).map some).bind fun a => (partD a).bind fun x => sliceD (.list (foD' dp r)) x none 1]).bind mkT) (by kernel_rfl) ?_
      rw [hX0]
      show (mapI [sliceD (.list (foD' dp r)) none (some (p : Int)) 1, itemD (.list (foD' dp r)) (.int (p : Int)), sliceD (.list (foD' dp r)) (some ((p + 1 : Nat) : Int)) none 1]).bind mkT = _
      rw [slice_up, slice_fr, fo_item h2, hta, hdr]; rfl
    obtain ⟨c0, c1, c2, e0, e1, e2, he⟩ := flags (G := G) hd X h3
    have b0 : ∀ (c : Bool) (k : Nat) (f : Form → Form), ((if c = true then pick G k else []).map f).length ≤ 2 := fun c k f => by
      rw [List.length_map]
      cases c
      · exact Nat.zero_le 2
      · rw [if_pos rfl]
        match k with
        | 0 => exact Nat.le_refl 2
        | 1 => exact Nat.le_refl 2
        | _ + 2 => exact Nat.le_refl 2
    refine wp_for1 (n := m + 54) [.int ((0 : Nat) : Int), .int ((1 : Nat) : Int), .int ((2 : Nat) : Int)] (by kernel_rfl) (by kernel_rfl) (by kernel_rfl) ?_
    refine wp_exf_step (n := m + 53) (k_turn (m := m + 33) (by decide) e0 hs la lb (Nat.le_trans hB (by decide)) fun J1 => ?_)
    have l1 : (B ++ (if c0 = true then pick G 0 else []).map fun s => (r.take p ++ s) ++ r.drop (p + 1)).length ≤ 302 := by rw [List.length_append]; exact Nat.add_le_add hB (b0 _ _ _)
    refine wp_exf_step (n := m + 52) (k_turn (m := m + 32) (by decide) e1 hs la lb (Nat.le_trans l1 (by decide)) fun J2 => ?_)
    have l2 := Nat.add_le_add l1 (b0 c1 1 fun s => (r.take p ++ s) ++ r.drop (p + 1))
    refine wp_exf_step (n := m + 51) (k_turn (m := m + 31) (by decide) e2 hs la lb (by rw [List.length_append]; exact Nat.le_trans l2 (by decide)) fun J3 => ?_)
    refine wp_exf_nil (n := m + 50) (wp_nil (wp_nil ?_))
    rw [he]
    unfold sW
    rw [stOf_app, ← hide_keep grownK _ _ (by kernel_rfl)]
    exact hQ _

theorem stp_two {G : Gr} : ∀ r : Form, (stp G r).length ≤ 2
  | [] => Nat.le_add_left 1 1
  | .t z :: r => by show ((stp G r).map _).length ≤ 2; rw [List.length_map]; exact stp_two r
  | .dn :: _ => Nat.le_refl 2
  | .mi :: _ => Nat.le_refl 2
  | .tp :: _ => Nat.le_refl 2
/-- a side's terminals are terminals, so a step's are -/
theorem stp_mem {G : Gr} : ∀ (r s : Form), s ∈ stp G r → ∃ u, u ∈ [[], G.a0, G.a1, G.b0, G.b1, G.c0, G.c1] ∧ s.length ≤ r.length + u.length ∧ ∀ X ∈ s, X ∈ r ∨ X ∈ u
  | [], s, h => ⟨[], List.mem_cons_self, by rw [List.mem_singleton.mp h]; exact Nat.le_refl 0, fun X hX => by rw [List.mem_singleton.mp h] at hX; exact .inl hX⟩
  | .t z :: r, s, h => by
    obtain ⟨s', h', rfl⟩ := List.mem_map.mp h
    obtain ⟨u, h1, h2, h3⟩ := stp_mem r s' h'
    refine ⟨u, h1, by rw [List.length_cons, List.length_cons]; exact Nat.le_trans (Nat.succ_le_succ h2) (Nat.le_of_eq (Nat.add_right_comm r.length u.length 1)), fun X hX => ?_⟩
    rcases List.mem_cons.mp hX with rfl | hX
    · exact .inl List.mem_cons_self
    · exact (h3 X hX).imp (List.mem_cons_of_mem _) id
  | .dn :: r, s, h => nt _ r s (twoS G .dn) (fun u hu => List.mem_cons_of_mem _ (List.mem_of_mem_drop (i := 4) hu)) h
  | .mi :: r, s, h => nt _ r s (twoS G .mi) (fun u hu => List.mem_cons_of_mem _ (List.mem_of_mem_drop (i := 2) (List.mem_of_mem_take (i := 2) (l := [G.b0, G.b1, G.c0, G.c1]) hu))) h
  | .tp :: r, s, h => nt _ r s (twoS G .tp) (fun u hu => List.mem_cons_of_mem _ (List.mem_of_mem_take (i := 2) (l := [G.a0, G.a1, G.b0, G.b1, G.c0, G.c1]) hu)) h
where
  nt {G : Gr} (X : Sy) (r s : Form) (ss : List Form) (hm : ∀ u ∈ ss, u ∈ [[], G.a0, G.a1, G.b0, G.b1, G.c0, G.c1]) (h : s ∈ ss.map (· ++ r)) : ∃ u, u ∈ [[], G.a0, G.a1, G.b0, G.b1, G.c0, G.c1] ∧ s.length ≤ (X :: r).length + u.length ∧ ∀ Y ∈ s, Y ∈ X :: r ∨ Y ∈ u := by
    obtain ⟨u, hu, rfl⟩ := List.mem_map.mp h
    refine ⟨u, hm u hu, by rw [List.length_append, List.length_cons]; exact Nat.le_trans (Nat.le_of_eq (Nat.add_comm _ _)) (Nat.add_le_add_right (Nat.le_succ _) _), fun Y hY => ?_⟩
    rcases List.mem_append.mp hY with h | h
    · exact .inr h
    · exact .inl (List.mem_cons_of_mem _ h)

section
variable {G : Gr} {sg : List Nat} (ok : GOk G sg)
include ok
theorem fn_ok : ∀ i, (Fn G i).length ≤ 2 ^ i ∧ ∀ r ∈ Fn G i, r.length ≤ 1 + 5 * i ∧ ∀ z, Sy.t z ∈ r → z ∈ TZ
  | 0 => ⟨Nat.le_refl 1, fun r h => by
    rw [List.mem_singleton.mp h]
    exact ⟨Nat.le_refl 1, fun z hz => by rcases List.mem_singleton.mp hz⟩⟩
  | i + 1 => by
    obtain ⟨h1, h2⟩ := fn_ok i
    constructor
    · have : ∀ l : List Form, (l.flatMap (stp G)).length ≤ l.length * 2 := by
        intro l
        induction l with
        | nil => exact Nat.le_refl 0
        | cons r l ih => rw [List.flatMap_cons, List.length_append, List.length_cons, Nat.succ_mul, Nat.add_comm]; exact Nat.add_le_add ih (stp_two r)
      show ((Fn G i).flatMap (stp G)).length ≤ _
      rw [Nat.pow_succ]; exact Nat.le_trans (this _) (Nat.mul_le_mul_right 2 h1)
    · intro r hr
      obtain ⟨r0, hr0, hs⟩ := List.mem_flatMap.mp hr
      obtain ⟨g1, g2⟩ := h2 r0 hr0
      obtain ⟨u, hu, hlen, hm⟩ := stp_mem r0 r hs
      have hu5 : u.length ≤ 5 ∧ ∀ z, Sy.t z ∈ u → z ∈ TZ := by
        rcases List.mem_cons.mp hu with rfl | hu
        · exact ⟨Nat.zero_le 5, fun z hz => nomatch hz⟩
        · exact ⟨ok.len u hu, fun z hz => (ok.tz u hu z hz).1⟩
      refine ⟨Nat.le_trans hlen (Nat.le_trans (Nat.add_le_add g1 hu5.1) (Nat.le_of_eq (Nat.add_assoc 1 (5 * i) 5))), fun z hz => ?_⟩
      rcases hm _ hz with h | h
      · exact g2 z h
      · exact hu5.2 z h

inductive DvI (fl : D) (G : Gr) (dp : Int) (R : List Form) (rest : List D) (st : St) : Prop where
  | mk (rs B : List Form) (J : PE) : rest = rwD dp rs → (∀ r ∈ rs, FoOk r) → B.length + 2 * rs.length ≤ 300 → R.flatMap (stp G) = B ++ rs.flatMap (stp G) → st = stOf (sV fl G dp R) (oG dp B) (hide grownK J) → DvI fl G dp R rest st
theorem rows_loop {fl : D} {dp : Int} {R : List Form} {m : Nat} {J : PE} {Q : Option D → St → Prop} (hd : 258 ≤ dp) (hR : ∀ r ∈ R, FoOk r) (hn : R.length ≤ 50)
    (h : ∀ J', Q none (stOf (sV fl G dp R) (oG dp (R.flatMap (stp G))) (hide grownK J'))) :
    WP (exf (k3 7) (m + 140) (d3 7).sc (stOf (sV fl G dp R) (oG dp []) (hide grownK J)) (wT drI) (wB drI) (rwD dp R)) Q := by
  have key := wp_exf (C := k3 7) (sc := (d3 7).sc) (t := wT drI) (b := wB drI) (K := 60) (Q := Q) (DvI fl G dp R) ?_ ?_ (rwD dp R) (m + 79 - R.length) (stOf (sV fl G dp R) (oG dp []) (hide grownK J)) ⟨R, [], J, rfl, hR, by rw [List.length_nil, Nat.zero_add]; exact Nat.le_trans (Nat.mul_le_mul_left 2 hn) (by decide), rfl, rfl⟩
  · rw [rwD, List.length_map, show m + 79 - R.length + R.length + (60 + 1) = m + 140 from congrArg (· + 61) (Nat.sub_add_cancel (Nat.le_trans hn (Nat.le_trans (by decide) (Nat.le_add_left 79 m))))] at key
    exact key
  · rintro d rest m st ⟨rs, B, J, e1, e2, e3, e4, rfl⟩
    cases rs with
    | nil => cases e1
    | cons r rs =>
      obtain ⟨rfl, rfl⟩ := List.cons.inj e1
      have hs := stp_two (G := G) r
      rw [List.length_cons] at e3
      refine drv_turn hd (e2 r List.mem_cons_self) ok.len (Nat.le_trans (Nat.le_add_right _ _) e3) fun J' => ⟨rs, B ++ stp G r, J', rfl, fun r hr => e2 r (List.mem_cons_of_mem _ hr), ?_, ?_, rfl⟩
      · rw [List.length_append]
        exact Nat.le_trans (Nat.le_trans (Nat.add_le_add_right (Nat.add_le_add_left hs _) _) (Nat.le_of_eq (by rw [Nat.mul_succ, Nat.add_assoc, Nat.add_comm 2]))) e3
      · rw [e4, List.flatMap_cons, List.append_assoc]
  · rintro st ⟨rs, B, J, e1, e2, e3, e4, rfl⟩
    cases rs with
    | cons r rs => cases e1
    | nil =>
      rw [List.flatMap_nil, List.append_nil] at e4
      rw [← e4] at *
      exact h J

theorem turn_turn {fl : D} {dp : Int} {R : List Form} {m : Nat} {i : Int} {J : PE} {Q : Option D → St → Prop} (hd : 258 ≤ dp) (hR : ∀ r ∈ R, FoOk r) (hn : R.length ≤ 50)
    (h : ∀ J', Q none (stOf (sV fl G dp (R.flatMap (stp G))) [] J')) :
    ∃ st', bindS (wT (st3 7 3)) (.int i) (stOf (sV fl G dp R) [] J) = some st' ∧ WP (exs (k3 7) (m + 160) (d3 7).sc st' (wB (st3 7 3))) Q := by
  refine ⟨_, bind1 (l' := sV fl G dp R ++ [(Str.ofString "turn", .int i)]) (o' := []) (Str.ofString "turn") (by kernel_rfl) (by kernel_rfl) (by kernel_rfl), ?_⟩
  rw [stOf_app]
  refine wp_own1 (n := m + 158) grownK [] (sV fl G dp R) (oG dp []) (by kernel_rfl) (by kernel_rfl) (by kernel_rfl) (by kernel_rfl) (by kernel_rfl) ?_
  refine wp_for1 (n := m + 157) (rwD dp R) (by kernel_rfl) (by kernel_rfl) (by kernel_rfl) ?_
  refine rows_loop ok (m := m + 17) hd hR hn fun J' => ?_
  refine wp_frz (n := m + 156) (Str.ofString "rows") (.list (rwD dp (R.flatMap (stp G)))) (sV fl G dp (R.flatMap (stp G))) (by kernel_rfl) (by kernel_rfl) (by kernel_rfl) (by kernel_rfl) (wp_nil (h _))

noncomputable def flatL (G : Gr) (dp : Int) : List Int := ([G.a0, G.a1, G.b0, G.b1, G.c0, G.c1].map fun s => s.map (nmb dp) ++ [0]).flatten
theorem nmb_ne {dp : Int} (hd : 258 ≤ dp) {s : Form} (hs : s ∈ [G.a0, G.a1, G.b0, G.b1, G.c0, G.c1]) : ∀ z ∈ s.map (nmb dp), z ≠ 0 := by
  intro z hz
  obtain ⟨X, hX, rfl⟩ := List.mem_map.mp hz
  cases X with
  | t z => exact fun h => by have := (tz_facts z (ok.tz s hs z hX).1).2.2; rw [show nmb dp (.t z) = z from rfl] at h; rw [h] at this; cases this
  | dn => exact Int.ne_of_gt (Int.lt_of_lt_of_le (by decide) hd)
  | mi => show (257 : Int) ≠ 0; decide
  | tp => show (256 : Int) ≠ 0; decide
theorem pars_flat {dp : Int} (hd : 258 ≤ dp) : pars (flatL G dp) [] [] = [G.a0, G.a1, G.b0, G.b1, G.c0, G.c1].map (fun s => s.map (nmb dp)) ++ [[]] := by
  have n := fun s hs => nmb_ne ok hd (s := s) hs
  have e : flatL G dp = G.a0.map (nmb dp) ++ 0 :: (G.a1.map (nmb dp) ++ 0 :: (G.b0.map (nmb dp) ++ 0 :: (G.b1.map (nmb dp) ++ 0 :: (G.c0.map (nmb dp) ++ 0 :: (G.c1.map (nmb dp) ++ 0 :: []))))) := by
    unfold flatL
    simp
  rw [e, pars_side _ _ _ _ (n _ (by simp)), pars_side _ _ _ _ (n _ (by simp)), pars_side _ _ _ _ (n _ (by simp)), pars_side _ _ _ _ (n _ (by simp)), pars_side _ _ _ _ (n _ (by simp)), pars_side _ _ _ _ (n _ (by simp))]
  rfl
theorem flat_len (dp : Int) : (flatL G dp).length ≤ 36 := by
  have h := ok.len
  unfold flatL
  have a0 := h G.a0 (by simp); have a1 := h G.a1 (by simp); have b0 := h G.b0 (by simp); have b1 := h G.b1 (by simp); have c0 := h G.c0 (by simp); have c1 := h G.c1 (by simp)
  simp only [List.map_cons, List.map_nil, List.flatten_cons, List.flatten_nil, List.length_append, List.length_map, List.length_singleton, List.length_nil]
  exact Nat.add_le_add (Nat.succ_le_succ a0) (Nat.add_le_add (Nat.succ_le_succ a1) (Nat.add_le_add (Nat.succ_le_succ b0) (Nat.add_le_add (Nat.succ_le_succ b1) (Nat.add_le_add (Nat.succ_le_succ c0) (Nat.add_le_add (Nat.succ_le_succ c1) (Nat.le_refl 0))))))

theorem derived_walk {dp : Int} (hd : 258 ≤ dp) : f3 7 [.list ((flatL G dp).map .int), hdD dp] = some (.list (rwD dp (Fn G 4))) := by
  have hF := fun i => fn_ok ok i
  have fo : ∀ i, i ≤ 4 → (∀ r ∈ Fn G i, FoOk r) ∧ (Fn G i).length ≤ 50 := fun i hi => by
    refine ⟨fun r hr => ⟨Nat.le_trans ((hF i).2 r hr).1 (Nat.le_trans (Nat.add_le_add_left (Nat.mul_le_mul_left 5 hi) 1) (by decide)), ((hF i).2 r hr).2⟩, Nat.le_trans (hF i).1 (Nat.le_trans (Nat.pow_le_pow_right (by decide) hi) (by decide))⟩
  refine call_wp (sF (.list ((flatL G dp).map .int)) (hdD dp)) (by kernel_rfl) ?_
  refine wp_own2 (n := 398) sidesK [[]] (sF (.list ((flatL G dp).map .int)) (hdD dp)) (oS [] []) (by kernel_rfl) (by kernel_rfl) (by kernel_rfl) (by kernel_rfl) (by kernel_rfl) ?_
  refine wp_for1 (n := 397) ((flatL G dp).map .int) (by kernel_rfl) (by kernel_rfl) (by kernel_rfl) ?_
  have hpars := pars_flat ok hd
  refine read_loop (Nat.le_trans (flat_len ok dp) (by decide)) fun ds c J hS => ?_
  rw [hpars] at hS
  generalize D.list ((flatL G dp).map .int) = fl
  have hoS : oS ds c = [(sidesK, OD.two (inD ([G.a0, G.a1, G.b0, G.b1, G.c0, G.c1].map (fun s => s.map (nmb dp)) ++ [[]])))] := by unfold oS; rw [hS]
  rw [hoS]
  refine wp_frz (n := 396) (Str.ofString "rows") (.list (rwD dp (Fn G 0))) (sF fl (hdD dp) ++ [(Str.ofString "rows", .list (rwD dp (Fn G 0)))]) (by kernel_rfl) (by kernel_rfl) (by kernel_rfl) (by kernel_rfl) ?_
  rw [over_one]
  have hst : stOf (sF fl (hdD dp) ++ [(Str.ofString "rows", .list (rwD dp (Fn G 0)))]) [] (mkJ J [(sidesK, (OD.two (inD ([G.a0, G.a1, G.b0, G.b1, G.c0, G.c1].map (fun s => s.map (nmb dp)) ++ [[]]))).toD)]) = stOf (sV fl G dp (Fn G 0)) [] J := by
    rw [← stOf_app]; rfl
  rw [hst]
  refine wp_for1 (n := 395) [.int 0, .int 1, .int 2, .int 3] (by kernel_rfl) (by kernel_rfl) (by kernel_rfl) ?_
  refine wp_exf_step (n := 394) (turn_turn ok (m := 234) hd (fo 0 (by decide)).1 (fo 0 (by decide)).2 fun J' => ?_)
  refine wp_exf_step (n := 393) (turn_turn ok (m := 233) (R := Fn G 1) hd (fo 1 (by decide)).1 (fo 1 (by decide)).2 fun J' => ?_)
  refine wp_exf_step (n := 392) (turn_turn ok (m := 232) (R := Fn G 2) hd (fo 2 (by decide)).1 (fo 2 (by decide)).2 fun J' => ?_)
  refine wp_exf_step (n := 391) (turn_turn ok (m := 231) (R := Fn G 3) hd (fo 3 (by decide)).1 (fo 3 (by decide)).2 fun J' => ?_)
  refine wp_exf_nil (n := 390) ?_
  exact wp_ret (n := 394) (.list (rwD dp (Fn G 4))) (by kernel_rfl) rfl
end
end Mine

end

section
open PySem PySem.W PyProof.Rows
set_option Elab.async false
namespace Mine

theorem fmod_is (x : Int) (n : Nat) (hn : 0 < n) : ∃ i : Nat, i < n ∧ x.fmod n = (i : Int) := by
  have h0 : 0 ≤ x.fmod n := Int.fmod_nonneg_of_pos x (Int.ofNat_lt.mpr hn)
  have h1 : x.fmod n < n := Int.fmod_lt_of_pos x (Int.ofNat_lt.mpr hn)
  exact ⟨(x.fmod n).toNat, Int.ofNat_lt.mp (Int.toNat_of_nonneg h0 ▸ h1), (Int.toNat_of_nonneg h0).symm⟩
/-- a cell of the grammar, by its figure -/
noncomputable def cell (a b : Int) (i : Nat) : List Int := ([[a], [b], [255], [1], [-1], []] : List (List Int)).getD i []
noncomputable def cD (l : List Int) : D := .list (l.map .int)
noncomputable def menuD (a b : Int) : D := .list [cD [a], cD [b], cD [255], cD [1], cD [-1], cD []]
theorem menu_at {a b : Int} : ∀ i < 6, itemD (menuD a b) (.int (i : Nat)) = some (cD (cell a b i)) := fun i hi => by
  rcases ((by decide : ∀ n < 6, n = 0 ∨ n = 1 ∨ n = 2 ∨ n = 3 ∨ n = 4 ∨ n = 5) i hi) with rfl | rfl | rfl | rfl | rfl | rfl
  · kernel_rfl
  · kernel_rfl
  · kernel_rfl
  · kernel_rfl
  · kernel_rfl
  · kernel_rfl
noncomputable def fig (P : Int) (k : Nat) : Nat := ((P.fdiv (6 ^ k)).fmod 6).toNat
theorem fig_is (P : Int) (k : Nat) : fig P k < 6 ∧ (P.fdiv (6 ^ k)).fmod 6 = (fig P k : Int) := by
  obtain ⟨i, h1, h2⟩ := fmod_is (P.fdiv (6 ^ k)) 6 (by decide)
  have h2 : (P.fdiv (6 ^ k)).fmod 6 = (i : Int) := h2
  unfold fig
  rw [h2]; exact ⟨h1, rfl⟩
theorem menu_fig (a b P : Int) (k : Nat) : itemD (menuD a b) (.int ((P.fdiv (6 ^ k)).fmod 6)) = some (cD (cell a b (fig P k))) := by
  rw [(fig_is P k).2]; exact menu_at _ (fig_is P k).1
theorem add_c {a b : List Int} (h : a.length + b.length ≤ 1000) : binD .Add (cD a) (cD b) = some (cD (a ++ b)) := by
  unfold cD
  rw [add_l (by rw [List.length_append, List.length_map, List.length_map]; exact Nat.le_trans h (by decide)), List.map_append]

noncomputable def drD (e0 e1 e2 e3 e4 : Int) : D := .list [.int e0, .int e1, .int e2, .int e3, .int e4]
noncomputable def sS (dr : D) (a b dp : Int) : List (Str × D) := [(Str.ofString "draws", dr), (Str.ofString "one", .int a), (Str.ofString "two", .int b), (Str.ofString "deep", .int dp), (Str.ofString "menu", menuD a b)]
noncomputable def cells (a b P : Int) (n : Nat) : D := .list ((List.range n).map fun k => cD (cell a b (fig P k)))
noncomputable def sS2 (dr : D) (a b dp : Int) (Lo Mi To : D) : List (Str × D) := sS dr a b dp ++ [(Str.ofString "low", Lo), (Str.ofString "middle", Mi), (Str.ofString "top", To)]

/-- the grammar, by its cells -/
noncomputable def toF (l : List Int) : Form := l.map .t
noncomputable def grOf (t0 t1 t2 m0 m1 m2 m3 l0 l1 : List Int) (fl : Bool) : Gr where
  a0 := if fl = true then [.dn] ++ toF t0 ++ [.mi] else [.mi] ++ toF t0 ++ [.dn]
  a1 := toF t1 ++ [.mi] ++ toF t2
  b0 := toF m0 ++ [.dn] ++ toF m1
  b1 := toF m2 ++ toF m3
  c0 := toF l0
  c1 := toF l1
noncomputable def grD (a b e1 e2 e3 : Int) : Gr := grOf (cell a b (fig e3 0)) (cell a b (fig e3 1)) (cell a b (fig e3 2)) (cell a b (fig e2 0)) (cell a b (fig e2 1)) (cell a b (fig e2 2)) (cell a b (fig e2 3)) (cell a b (fig e1 0)) (cell a b (fig e1 1)) ((e3.fdiv 216).fmod 2 == 1)
theorem cell_len (a b : Int) (i : Nat) : (cell a b i).length ≤ 1 := by
  unfold cell
  match i with
  | 0 | 1 | 2 | 3 | 4 => exact Nat.le_refl 1
  | 5 => exact Nat.zero_le 1
  | _ + 6 => exact Nat.zero_le 1
theorem toF_nmb (dp : Int) (l : List Int) : (toF l).map (nmb dp) = l := by
  unfold toF
  rw [List.map_map]
  exact List.map_id l
theorem sides_tail {a b dp e0 e1 e2 e3 e4 : Int} {fl : Bool} {c10 c11 c20 c21 c22 c23 c30 c31 c32 : List Int} (k0 : c20.length ≤ 1) (k1 : c21.length ≤ 1) (k2 : c22.length ≤ 1) (k3' : c23.length ≤ 1) (j0 : c30.length ≤ 1) (j1 : c31.length ≤ 1) (j2 : c32.length ≤ 1) (hfl : ((e3.fdiv 216).fmod 2 == 1) = fl) :
    WP (exs (k3 6) 396 (d3 6).sc (stOf (sS2 (drD e0 e1 e2 e3 e4) a b dp (.list [cD c10, cD c11]) (.list [cD c20, cD c21, cD c22, cD c23]) (.list [cD c30, cD c31, cD c32])) []) ((d3 6).body.drop 4)) fun o _ => o.getD .none = sdD (grOf c30 c31 c32 c20 c21 c22 c23 c10 c11 fl) dp := by
  have sum3 : ∀ (x y z : List Int), x.length + y.length ≤ 5 → z.length ≤ 5 → bind2 (binD .Add (cD x) (cD y)) (some (cD z)) (binD .Add) = some (cD (x ++ y ++ z)) := fun x y z h1 h2 => by
    rw [add_c (Nat.le_trans h1 (by decide))]
    show binD .Add (cD (x ++ y)) (cD z) = _
    rw [add_c (by rw [List.length_append]; exact Nat.le_trans (Nat.add_le_add h1 h2) (by decide))]
  have one5 : ∀ x : Int, ([x] : List Int).length ≤ 5 := fun x => (by decide : 1 ≤ 5)
  refine wp_set1 (n := 394) (Str.ofString "first") (cD ([257] ++ c30 ++ [dp])) (sS2 (drD e0 e1 e2 e3 e4) a b dp (.list [cD c10, cD c11]) (.list [cD c20, cD c21, cD c22, cD c23]) (.list [cD c30, cD c31, cD c32]) ++ [(Str.ofString "first", cD ([257] ++ c30 ++ [dp]))]) [] (by kernel_rfl) (by kernel_rfl) ?_ (by kernel_rfl) (by kernel_rfl) ?_
  · exact Eq.trans (b := bind2 (binD .Add (cD [257]) (cD c30)) (some (cD [dp])) (binD .Add)) (by kernel_rfl) (sum3 _ _ _ (show 1 + c30.length ≤ 5 from Nat.le_trans (Nat.add_le_add_left j0 1) (by decide)) (one5 _))
  have rest : ∀ F : List Int, WP (exs (k3 6) 394 (d3 6).sc (stOf (sS2 (drD e0 e1 e2 e3 e4) a b dp (.list [cD c10, cD c11]) (.list [cD c20, cD c21, cD c22, cD c23]) (.list [cD c30, cD c31, cD c32]) ++ [(Str.ofString "first", cD F)]) []) ((d3 6).body.drop 6)) fun o _ => o.getD .none = .list [cD F, cD (c31 ++ [257] ++ c32), cD (c20 ++ [dp] ++ c21), cD (c22 ++ c23), cD c10, cD c11] := fun F => by
    refine wp_ret (n := 392) _ ?_ rfl
    refine Eq.trans (b := (mapI [some (cD F), bind2 (binD .Add (cD c31) (cD [257])) (some (cD c32)) (binD .Add), bind2 (binD .Add (cD c20) (cD [dp])) (some (cD c21)) (binD .Add), binD .Add (cD c22) (cD c23), some (cD c10), some (cD c11)]).bind mkL) (by kernel_rfl) ?_
    rw [sum3 _ _ _ (show c31.length + 1 ≤ 5 from Nat.le_trans (Nat.succ_le_succ j1) (by decide)) (Nat.le_trans j2 (by decide)), sum3 _ _ _ (show c20.length + 1 ≤ 5 from Nat.le_trans (Nat.succ_le_succ k0) (by decide)) (Nat.le_trans k1 (by decide)), add_c (Nat.le_trans (Nat.add_le_add k2 k3') (by decide))]; rfl
  have fin : ∀ F : List Int, F = (if fl = true then [dp] ++ c30 ++ [257] else [257] ++ c30 ++ [dp]) → D.list [cD F, cD (c31 ++ [257] ++ c32), cD (c20 ++ [dp] ++ c21), cD (c22 ++ c23), cD c10, cD c11] = sdD (grOf c30 c31 c32 c20 c21 c22 c23 c10 c11 fl) dp := fun F hF => by
    unfold sdD grOf
    simp only [List.map_cons, List.map_nil, foD, List.map_append, toF_nmb, cD]
    rw [hF]
    cases fl with
    | true => simp only [if_true, List.map_append, List.map_cons, List.map_nil, toF_nmb]; rfl
    | false => simp only [Bool.false_eq_true, if_false, List.map_append, List.map_cons, List.map_nil, toF_nmb]; rfl
  refine wp_if0 (n := 392) fl (Eq.trans (b := some ((e3.fdiv 216).fmod 2 == 1)) (by kernel_rfl) (congrArg some hfl)) (fun h => ?_) fun h => ?_
  · refine wp_set1 (n := 391) (Str.ofString "first") (cD ([dp] ++ c30 ++ [257])) (sS2 (drD e0 e1 e2 e3 e4) a b dp (.list [cD c10, cD c11]) (.list [cD c20, cD c21, cD c22, cD c23]) (.list [cD c30, cD c31, cD c32]) ++ [(Str.ofString "first", cD ([dp] ++ c30 ++ [257]))]) [] (by kernel_rfl) (by kernel_rfl) ?_ (by kernel_rfl) (by kernel_rfl) (wp_nil ?_)
    · exact Eq.trans (b := bind2 (binD .Add (cD [dp]) (cD c30)) (some (cD [257])) (binD .Add)) (by kernel_rfl) (sum3 _ _ _ (show 1 + c30.length ≤ 5 from Nat.le_trans (Nat.add_le_add_left j0 1) (by decide)) (one5 _))
    · rw [← fin _ (by rw [if_pos h])]; exact rest _
  · rw [← fin _ (by rw [h, if_neg (by decide)])]; exact rest _
theorem sides_walk (a b dp e0 e1 e2 e3 e4 : Int) : f3 6 [drD e0 e1 e2 e3 e4, .int a, .int b, .int dp] = some (sdD (grD a b e1 e2 e3) dp) := by
  refine call_wp [(Str.ofString "draws", drD e0 e1 e2 e3 e4), (Str.ofString "one", .int a), (Str.ofString "two", .int b), (Str.ofString "deep", .int dp)] (by kernel_rfl) ?_
  refine wp_set1 (n := 398) (Str.ofString "menu") (menuD a b) (sS (drD e0 e1 e2 e3 e4) a b dp) [] (by kernel_rfl) (by kernel_rfl) (by kernel_rfl) (by kernel_rfl) (by kernel_rfl) ?_
  refine wp_set1 (n := 397) (Str.ofString "low") (cells a b e1 2) (sS (drD e0 e1 e2 e3 e4) a b dp ++ [(Str.ofString "low", cells a b e1 2)]) [] (by kernel_rfl) (by kernel_rfl) ?_ (by kernel_rfl) (by kernel_rfl) ?_
  · refine ev_compE (xs := List.range 2) (fun (k : Nat) => .int k) (fun k => cD (cell a b (fig e1 k))) (by kernel_rfl) (by kernel_rfl) (by kernel_rfl) (fun k hk => ?_) (by show 2 ≤ lim; decide)
    rcases ((by decide : ∀ n < 2, n = 0 ∨ n = 1) k (List.mem_range.mp hk)) with rfl | rfl
    · exact Eq.trans (b := (itemD (menuD a b) (.int ((e1.fdiv (6 ^ 0)).fmod 6))).map fun d => [d]) (by kernel_rfl) (by rw [menu_fig]; rfl)
    · exact Eq.trans (b := (itemD (menuD a b) (.int ((e1.fdiv (6 ^ 1)).fmod 6))).map fun d => [d]) (by kernel_rfl) (by rw [menu_fig]; rfl)
  refine wp_set1 (n := 396) (Str.ofString "middle") (cells a b e2 4) (sS (drD e0 e1 e2 e3 e4) a b dp ++ [(Str.ofString "low", cells a b e1 2), (Str.ofString "middle", cells a b e2 4)]) [] (by kernel_rfl) (by kernel_rfl) ?_ (by kernel_rfl) (by kernel_rfl) ?_
  · refine ev_compE (xs := List.range 4) (fun (k : Nat) => .int k) (fun k => cD (cell a b (fig e2 k))) (by kernel_rfl) (by kernel_rfl) (by kernel_rfl) (fun k hk => ?_) (by show 4 ≤ lim; decide)
    rcases ((by decide : ∀ n < 4, n = 0 ∨ n = 1 ∨ n = 2 ∨ n = 3) k (List.mem_range.mp hk)) with rfl | rfl | rfl | rfl
    · exact Eq.trans (b := (itemD (menuD a b) (.int ((e2.fdiv (6 ^ 0)).fmod 6))).map fun d => [d]) (by kernel_rfl) (by rw [menu_fig]; rfl)
    · exact Eq.trans (b := (itemD (menuD a b) (.int ((e2.fdiv (6 ^ 1)).fmod 6))).map fun d => [d]) (by kernel_rfl) (by rw [menu_fig]; rfl)
    · exact Eq.trans (b := (itemD (menuD a b) (.int ((e2.fdiv (6 ^ 2)).fmod 6))).map fun d => [d]) (by kernel_rfl) (by rw [menu_fig]; rfl)
    · exact Eq.trans (b := (itemD (menuD a b) (.int ((e2.fdiv (6 ^ 3)).fmod 6))).map fun d => [d]) (by kernel_rfl) (by rw [menu_fig]; rfl)
  refine wp_set1 (n := 395) (Str.ofString "top") (cells a b e3 3) (sS2 (drD e0 e1 e2 e3 e4) a b dp (cells a b e1 2) (cells a b e2 4) (cells a b e3 3)) [] (by kernel_rfl) (by kernel_rfl) ?_ (by kernel_rfl) (by kernel_rfl) ?_
  · refine ev_compE (xs := List.range 3) (fun (k : Nat) => .int k) (fun k => cD (cell a b (fig e3 k))) (by kernel_rfl) (by kernel_rfl) (by kernel_rfl) (fun k hk => ?_) (by show 3 ≤ lim; decide)
    rcases ((by decide : ∀ n < 3, n = 0 ∨ n = 1 ∨ n = 2) k (List.mem_range.mp hk)) with rfl | rfl | rfl
    · exact Eq.trans (b := (itemD (menuD a b) (.int ((e3.fdiv (6 ^ 0)).fmod 6))).map fun d => [d]) (by kernel_rfl) (by rw [menu_fig]; rfl)
    · exact Eq.trans (b := (itemD (menuD a b) (.int ((e3.fdiv (6 ^ 1)).fmod 6))).map fun d => [d]) (by kernel_rfl) (by rw [menu_fig]; rfl)
    · exact Eq.trans (b := (itemD (menuD a b) (.int ((e3.fdiv (6 ^ 2)).fmod 6))).map fun d => [d]) (by kernel_rfl) (by rw [menu_fig]; rfl)
  have cl := cell_len a b
  unfold grD
  have hLo : cells a b e1 2 = .list [cD (cell a b (fig e1 0)), cD (cell a b (fig e1 1))] := rfl
  have hMi : cells a b e2 4 = .list [cD (cell a b (fig e2 0)), cD (cell a b (fig e2 1)), cD (cell a b (fig e2 2)), cD (cell a b (fig e2 3))] := rfl
  have hTo : cells a b e3 3 = .list [cD (cell a b (fig e3 0)), cD (cell a b (fig e3 1)), cD (cell a b (fig e3 2))] := rfl
  rw [hLo, hMi, hTo]
  exact sides_tail (cl _) (cl _) (cl _) (cl _) (cl _) (cl _) (cl _) rfl
end Mine

end

section
open PySem PySem.W PyProof.Rows
set_option Elab.async false
namespace Mine

/-- how many they are, how long, and of what -/
structure Bd (P : Int → Prop) (A : List (List Int)) (c n : Nat) : Prop where
  cnt : A.length ≤ c
  len : ∀ a ∈ A, a.length ≤ n
  all : ∀ a ∈ A, ∀ z ∈ a, P z
section
variable {P : Int → Prop}
theorem Bd.prod {A B : List (List Int)} {c n c' n' : Nat} (h : Bd P A c n) (g : Bd P B c' n') : Bd P (A.flatMap fun a => B.map (a ++ ·)) (c * c') (n + n') where
  cnt := by
    have : ∀ A : List (List Int), (A.flatMap fun a => B.map (a ++ ·)).length = A.length * B.length := by
      intro A
      induction A with
      | nil => exact (Nat.zero_mul _).symm
      | cons a A ih => rw [List.flatMap_cons, List.length_append, ih, List.length_map, List.length_cons, Nat.succ_mul, Nat.add_comm]
    rw [this]; exact Nat.mul_le_mul h.cnt g.cnt
  len := fun x hx => by
    obtain ⟨a, ha, hx⟩ := List.mem_flatMap.mp hx
    obtain ⟨b, hb, rfl⟩ := List.mem_map.mp hx
    rw [List.length_append]; exact Nat.add_le_add (h.len a ha) (g.len b hb)
  all := fun x hx z hz => by
    obtain ⟨a, ha, hx⟩ := List.mem_flatMap.mp hx
    obtain ⟨b, hb, rfl⟩ := List.mem_map.mp hx
    rcases List.mem_append.mp hz with hz | hz
    · exact h.all a ha z hz
    · exact g.all b hb z hz
theorem Bd.app {A B : List (List Int)} {c n c' : Nat} (h : Bd P A c n) (g : Bd P B c' n) : Bd P (A ++ B) (c + c') n where
  cnt := by rw [List.length_append]; exact Nat.add_le_add h.cnt g.cnt
  len := fun x hx => (List.mem_append.mp hx).elim (h.len x) (g.len x)
  all := fun x hx => (List.mem_append.mp hx).elim (h.all x) (g.all x)
theorem Bd.more {A : List (List Int)} {c n n' : Nat} (h : Bd P A c n) (g : n ≤ n') : Bd P A c n' := ⟨h.cnt, fun a ha => Nat.le_trans (h.len a ha) g, h.all⟩
theorem Bd.nil : Bd P [[]] 1 0 := ⟨Nat.le_refl 1, fun a ha => by rw [List.mem_singleton.mp ha]; exact Nat.le_refl 0, fun a ha z hz => by rw [List.mem_singleton.mp ha] at hz; cases hz⟩
noncomputable def CellOk (P : Int → Prop) (c : List Int) : Prop := c.length ≤ 1 ∧ ∀ z ∈ c, P z
theorem gens_toF (g : Sy → List (List Int)) (hg : ∀ z, g (.t z) = [[z]]) : ∀ c : List Int, gens g (toF c) = [c]
  | [] => rfl
  | z :: c => by
    show (g (.t z)).flatMap (fun a => (gens g (toF c)).map (a ++ ·)) = _
    rw [hg, gens_toF g hg c]; rfl
theorem Bd.cell {g : Sy → List (List Int)} (hg : ∀ z, g (.t z) = [[z]]) {c : List Int} (h : CellOk P c) : Bd P (gens g (toF c)) 1 1 := by
  rw [gens_toF g hg]
  exact ⟨Nat.le_refl 1, fun a ha => by rw [List.mem_singleton.mp ha]; exact h.1, fun a ha => by rw [List.mem_singleton.mp ha]; exact h.2⟩
theorem Bd.sy {g : Sy → List (List Int)} {X : Sy} {c n : Nat} (h : Bd P (g X) c n) : Bd P (gens g [X]) c n := by
  have := h.prod (Bd.nil (P := P))
  rwa [Nat.mul_one, Nat.add_zero] at this
theorem Bd.cat {g : Sy → List (List Int)} {s r : Form} {c n c' n' : Nat} (h : Bd P (gens g s) c n) (k : Bd P (gens g r) c' n') : Bd P (gens g (s ++ r)) (c * c') (n + n') := by
  rw [gens_app]; exact h.prod k

theorem toF_dph {c : List Int} {X : Sy} (h : X ∈ toF c) : dph X = 0 := by
  obtain ⟨z, _, rfl⟩ := List.mem_map.mp h; rfl
theorem toF_rk (c : List Int) : rk (toF c) = 0 := rk_zero _ fun _ h => toF_dph h
theorem toF_mem {c : List Int} {z : Int} (h : Sy.t z ∈ toF c) : z ∈ c := by
  obtain ⟨y, hy, e⟩ := List.mem_map.mp h
  cases e; exact hy
theorem toF_len (c : List Int) : (toF c).length = c.length := List.length_map _

variable {t0 t1 t2 m0 m1 m2 m3 l0 l1 : List Int} {fl : Bool}
theorem bd_low (h0 : CellOk P l0) (h1 : CellOk P l1) : Bd P (ge1 (grOf t0 t1 t2 m0 m1 m2 m3 l0 l1 fl) .dn) 2 1 := (Bd.cell (fun _ => rfl) h0).app (Bd.cell (fun _ => rfl) h1)
theorem bd_mid (h0 : CellOk P l0) (h1 : CellOk P l1) (g0 : CellOk P m0) (g1 : CellOk P m1) (g2 : CellOk P m2) (g3 : CellOk P m3) : Bd P (ge2 (grOf t0 t1 t2 m0 m1 m2 m3 l0 l1 fl) .mi) 3 3 :=
  (((Bd.cell (fun _ => rfl) g0).cat (Bd.sy (bd_low h0 h1))).cat (Bd.cell (fun _ => rfl) g1)).app (((Bd.cell (fun _ => rfl) g2).cat (Bd.cell (fun _ => rfl) g3)).more (by decide))
theorem bd_top (h0 : CellOk P l0) (h1 : CellOk P l1) (g0 : CellOk P m0) (g1 : CellOk P m1) (g2 : CellOk P m2) (g3 : CellOk P m3) (k0 : CellOk P t0) (k1 : CellOk P t1) (k2 : CellOk P t2) : Bd P (ge3 (grOf t0 t1 t2 m0 m1 m2 m3 l0 l1 fl) .tp) 9 5 := by
  have lo : Bd P (ge2 (grOf t0 t1 t2 m0 m1 m2 m3 l0 l1 fl) .dn) 2 1 := bd_low h0 h1
  have mi : Bd P (ge2 (grOf t0 t1 t2 m0 m1 m2 m3 l0 l1 fl) .mi) 3 3 := bd_mid h0 h1 g0 g1 g2 g3
  have a0 : Bd P (gens (ge2 (grOf t0 t1 t2 m0 m1 m2 m3 l0 l1 fl)) (grOf t0 t1 t2 m0 m1 m2 m3 l0 l1 fl).a0) 6 5 := by
    cases fl
    · exact ((Bd.sy mi).cat (Bd.cell (fun _ => rfl) k0)).cat (Bd.sy lo)
    · exact ((Bd.sy lo).cat (Bd.cell (fun _ => rfl) k0)).cat (Bd.sy mi)
  have a1 : Bd P (gens (ge2 (grOf t0 t1 t2 m0 m1 m2 m3 l0 l1 fl)) (grOf t0 t1 t2 m0 m1 m2 m3 l0 l1 fl).a1) 3 5 := ((Bd.cell (fun _ => rfl) k1).cat (Bd.sy mi)).cat (Bd.cell (fun _ => rfl) k2)
  exact a0.app a1

/-- a terminal of the law's -/
noncomputable def TOk (sg : List Nat) (z : Int) : Prop := z ∈ TZ ∧ (tx z).length ≤ 3 ∧ ∀ c ∈ tx z, c ∈ sg
theorem three_len {x y w : Form} (h1 : x.length ≤ 1) (h2 : y.length ≤ 1) (h3 : w.length ≤ 1) : (x ++ y ++ w).length ≤ 5 := by rw [List.length_append, List.length_append]; omega
theorem gr_ok {sg : List Nat} (h0 : CellOk (TOk sg) l0) (h1 : CellOk (TOk sg) l1) (g0 : CellOk (TOk sg) m0) (g1 : CellOk (TOk sg) m1) (g2 : CellOk (TOk sg) m2) (g3 : CellOk (TOk sg) m3) (k0 : CellOk (TOk sg) t0) (k1 : CellOk (TOk sg) t1) (k2 : CellOk (TOk sg) t2) :
    GOk (grOf t0 t1 t2 m0 m1 m2 m3 l0 l1 fl) sg where
  gr := {
    c0 := fun X h => toF_dph h
    c1 := fun X h => toF_dph h
    b0 := by
      refine ⟨fun X h => ?_, by show rk (toF m0 ++ [.dn] ++ toF m1) ≤ 1; rw [rk_app, rk_app, toF_rk, toF_rk]; decide⟩
      rcases List.mem_append.mp h with h | h
      · rcases List.mem_append.mp h with h | h
        · rw [toF_dph h]; exact Nat.zero_le 1
        · rw [List.mem_singleton.mp h]; exact Nat.le_refl 1
      · rw [toF_dph h]; exact Nat.zero_le 1
    b1 := by
      refine ⟨fun X h => ?_, by show rk (toF m2 ++ toF m3) ≤ 1; rw [rk_app, toF_rk, toF_rk]; decide⟩
      rcases List.mem_append.mp h with h | h <;> (rw [toF_dph h]; exact Nat.zero_le 1)
    a0 := by
      cases fl
      · refine ⟨fun X h => ?_, by show rk ([.mi] ++ toF t0 ++ [.dn]) ≤ 3; rw [rk_app, rk_app, toF_rk]; decide⟩
        rcases List.mem_append.mp h with h | h
        · rcases List.mem_append.mp h with h | h
          · rw [List.mem_singleton.mp h]; exact Nat.le_refl 2
          · rw [toF_dph h]; exact Nat.zero_le 2
        · rw [List.mem_singleton.mp h]; decide
      · refine ⟨fun X h => ?_, by show rk ([.dn] ++ toF t0 ++ [.mi]) ≤ 3; rw [rk_app, rk_app, toF_rk]; decide⟩
        rcases List.mem_append.mp h with h | h
        · rcases List.mem_append.mp h with h | h
          · rw [List.mem_singleton.mp h]; decide
          · rw [toF_dph h]; exact Nat.zero_le 2
        · rw [List.mem_singleton.mp h]; exact Nat.le_refl 2
    a1 := by
      refine ⟨fun X h => ?_, by show rk (toF t1 ++ [.mi] ++ toF t2) ≤ 3; rw [rk_app, rk_app, toF_rk, toF_rk]; decide⟩
      rcases List.mem_append.mp h with h | h
      · rcases List.mem_append.mp h with h | h
        · rw [toF_dph h]; exact Nat.zero_le 2
        · rw [List.mem_singleton.mp h]; exact Nat.le_refl 2
      · rw [toF_dph h]; exact Nat.zero_le 2 }
  len := by
    have L : ∀ {c : List Int}, CellOk (TOk sg) c → (toF c).length ≤ 1 := fun h => by rw [toF_len]; exact h.1
    have one : ∀ X : Sy, ([X] : Form).length ≤ 1 := fun X => Nat.le_refl 1
    refine List.forall_mem_cons.mpr ⟨?_, List.forall_mem_cons.mpr ⟨three_len (L k1) (one _) (L k2), List.forall_mem_cons.mpr ⟨three_len (L g0) (one _) (L g1), List.forall_mem_cons.mpr ⟨?_, List.forall_mem_cons.mpr ⟨Nat.le_trans (L h0) (by decide), List.forall_mem_cons.mpr ⟨Nat.le_trans (L h1) (by decide), fun _ h => nomatch h⟩⟩⟩⟩⟩⟩
    · cases fl
      · exact three_len (one _) (L k0) (one _)
      · exact three_len (one _) (L k0) (one _)
    · show (toF m2 ++ toF m3).length ≤ 5
      rw [List.length_append]; exact Nat.le_trans (Nat.add_le_add (L g2) (L g3)) (by decide)
  tz := by
    have S : ∀ {z : Int}, TOk sg z → z ∈ TZ ∧ (tx z).length ≤ 5 ∧ ∀ c ∈ tx z, c ∈ sg := fun h => ⟨h.1, Nat.le_trans h.2.1 (by decide), h.2.2⟩
    have A : ∀ {x y w : Form} {z : Int}, Sy.t z ∈ x ++ y ++ w → Sy.t z ∈ x ∨ Sy.t z ∈ y ∨ Sy.t z ∈ w := fun h => (List.mem_append.mp h).elim (fun h => (List.mem_append.mp h).imp id .inl) fun h => .inr (.inr h)
    have N : ∀ {z : Int} {X : Sy}, tOk X = false → ¬ Sy.t z ∈ [X] := fun h q => by rw [← List.mem_singleton.mp q] at h; cases h
    have M : ∀ {c : List Int} {z : Int}, CellOk (TOk sg) c → Sy.t z ∈ toF c → z ∈ TZ ∧ (tx z).length ≤ 5 ∧ ∀ c ∈ tx z, c ∈ sg := fun h q => S (h.2 _ (toF_mem q))
    refine List.forall_mem_cons.mpr ⟨fun z hz => ?_, List.forall_mem_cons.mpr ⟨fun z hz => ?_, List.forall_mem_cons.mpr ⟨fun z hz => ?_, List.forall_mem_cons.mpr ⟨fun z hz => ?_, List.forall_mem_cons.mpr ⟨fun z hz => M h0 hz, List.forall_mem_cons.mpr ⟨fun z hz => M h1 hz, fun _ h => nomatch h⟩⟩⟩⟩⟩⟩
    · cases fl
      · rcases A hz with h | h | h
        · exact absurd h (N rfl)
        · exact M k0 h
        · exact absurd h (N rfl)
      · rcases A hz with h | h | h
        · exact absurd h (N rfl)
        · exact M k0 h
        · exact absurd h (N rfl)
    · rcases A hz with h | h | h
      · exact M k1 h
      · exact absurd h (N rfl)
      · exact M k2 h
    · rcases A hz with h | h | h
      · exact M g0 h
      · exact absurd h (N rfl)
      · exact M g1 h
    · rcases List.mem_append.mp hz with h | h
      · exact M g2 h
      · exact M g3 h
  nL := Nat.le_trans (bd_low h0 h1).cnt (by decide)
  nM := Nat.le_trans (bd_mid h0 h1 g0 g1 g2 g3).cnt (by decide)
  nT := Nat.le_trans (bd_top h0 h1 g0 g1 g2 g3 k0 k1 k2).cnt (by decide)
end
end Mine

end

section
open PySem PySem.W PyProof.Rows
set_option Elab.async false
namespace Mine

/-- all signs that are written -/
noncomputable def AL : List Nat := [40, 41, 91, 93, 58, 44, 59, 43, 45, 42, 47, 124, 38, 60, 62, 61, 46, 37, 123, 125, 33, 126, 94, 64, 97, 65, 98]
theorem tz_al : ∀ z ∈ TZ, (tx z).length ≤ 3 ∧ ∀ c ∈ tx z, c ∈ AL := by decide +kernel
theorem price_lp : ∀ x ∈ AL, ∀ y ∈ AL, price x y = lp x y := by decide +kernel
theorem price_q : ∀ x ∈ AL, price 63 x = 2 ∧ 63 ≠ x := by decide +kernel
theorem L_price {a b : List Nat} (ha : ∀ x ∈ a, x ∈ AL) (hb : ∀ x ∈ b, x ∈ AL) : L price a b = L lp a b := L_congr a b fun x hx y hy => price_lp x (ha x hx) y (hb y hy)
theorem txs_al {a : List Int} (h : ∀ z ∈ a, z ∈ TZ) : (∀ c ∈ txs a, c ∈ AL) ∧ (txs a).length ≤ 3 * a.length := by
  unfold txs
  induction a with
  | nil => exact ⟨fun c hc => (nomatch hc), Nat.le_refl 0⟩
  | cons z a ih =>
    obtain ⟨h1, h2⟩ := ih fun y hy => h y (List.mem_cons_of_mem _ hy)
    obtain ⟨g1, g2⟩ := tz_al z (h z List.mem_cons_self)
    rw [List.map_cons, List.flatten_cons]
    refine ⟨fun c hc => (List.mem_append.mp hc).elim (g2 c) (h1 c), ?_⟩
    rw [List.length_append, List.length_cons]; omega

/-- the search, one by one -/
noncomputable def rn : List Nat → Nat → Nat → Option Nat → Nat × Option Nat
  | [], _, b, f => (b, f)
  | v :: r, i, b, f => if v < b then rn r (i + 1) v (some i) else rn r (i + 1) b f
theorem fold_le : ∀ (l : List Nat) (a : Nat), l.foldl min a ≤ a ∧ ∀ x ∈ l, l.foldl min a ≤ x
  | [], _ => ⟨Nat.le_refl _, fun _ h => nomatch h⟩
  | b :: l, a => by
    obtain ⟨h2, h3⟩ := fold_le l (min a b)
    refine ⟨Nat.le_trans h2 (Nat.min_le_left _ _), fun x hx => ?_⟩
    rcases List.mem_cons.mp hx with rfl | hx
    · exact Nat.le_trans h2 (Nat.min_le_right _ _)
    · exact h3 x hx
theorem fold_in : ∀ (l : List Nat) (a : Nat), l.foldl min a = a ∨ l.foldl min a ∈ l
  | [], _ => .inl rfl
  | b :: l, a => by
    rcases fold_in l (min a b) with h | h
    · rcases Nat.le_total a b with g | g
      · exact .inl (h.trans (Nat.min_eq_left g))
      · exact .inr (List.mem_cons.mpr (.inl (h.trans (Nat.min_eq_right g))))
    · exact .inr (List.mem_cons_of_mem _ h)
theorem rn_eq : ∀ (r : List Nat) (i b : Nat) (f : Option Nat), rn r i b f = (r.foldl min b, if r.foldl min b < b then some (i + r.idxOf (r.foldl min b)) else f)
  | [], i, b, f => by
    show (b, f) = (b, if b < b then _ else f)
    rw [if_neg (Nat.lt_irrefl b)]
  | v :: r, i, b, f => by
    show (if v < b then rn r (i + 1) v (some i) else rn r (i + 1) b f) = ((r.foldl min (min b v)), if r.foldl min (min b v) < b then some (i + (v :: r).idxOf (r.foldl min (min b v))) else f)
    by_cases h : v < b
    · rw [if_pos h, rn_eq r, Nat.min_eq_right (Nat.le_of_lt h)]
      have hm := (fold_le r v).1
      generalize r.foldl min v = m at hm ⊢
      rw [if_pos (Nat.lt_of_le_of_lt hm h), List.idxOf_cons]
      by_cases g : m < v
      · rw [if_pos g, show (v == m) = false from beq_false_of_ne (Nat.ne_of_gt g)]
        show _ = (m, some (i + (r.idxOf m + 1)))
        rw [Nat.add_assoc, Nat.add_comm 1]
      · obtain rfl : m = v := Nat.le_antisymm hm (Nat.not_lt.mp g)
        rw [if_neg g, show (m == m) = true from beq_self_eq_true m]; rfl
    · rw [if_neg h, rn_eq r, Nat.min_eq_left (Nat.not_lt.mp h)]
      have hm := (fold_le r b).1
      generalize r.foldl min b = m at hm ⊢
      by_cases g : m < b
      · rw [if_pos g, if_pos g, List.idxOf_cons, show (v == m) = false from beq_false_of_ne (by omega)]
        show _ = (m, some (i + (r.idxOf m + 1)))
        rw [Nat.add_assoc, Nat.add_comm 1]
      · rw [if_neg g, if_neg g]
theorem first_idx : ∀ (l : List Nat) (m : Nat), m ∈ l → firstAt (l.map fun (n : Nat) => (n : Int)) (m : Int) = some (l.idxOf m)
  | [], _, h => nomatch h
  | x :: l, m, h => by
    show (if (x : Int) = (m : Int) then some 0 else (firstAt (l.map fun (n : Nat) => (n : Int)) (m : Int)).map (· + 1)) = _
    rw [List.idxOf_cons]
    by_cases g : x = m
    · rw [if_pos (congrArg _ g), show (x == m) = true from beq_iff_eq.mpr g]; rfl
    · rw [if_neg (show ¬ ((x : Int) = (m : Int)) from fun q => g (Int.ofNat.inj q)), show (x == m) = false from beq_false_of_ne g, first_idx l m ((List.mem_cons.mp h).resolve_left fun q => g q.symm)]; rfl
/-- what the search ends with -/
theorem rn_end {l : List Nat} (h : l ≠ []) (hl : ∀ v ∈ l, v < 100) : ∃ m, m ∈ l ∧ (∀ x ∈ l, m ≤ x) ∧ rn l 0 100 none = (m, some (l.idxOf m)) := by
  obtain ⟨x, hx⟩ := List.exists_mem_of_ne_nil l h
  have hlt : l.foldl min 100 < 100 := Nat.lt_of_le_of_lt ((fold_le l 100).2 x hx) (hl x hx)
  refine ⟨l.foldl min 100, (fold_in l 100).resolve_left (Nat.ne_of_lt hlt), (fold_le l 100).2, ?_⟩
  rw [rn_eq, if_pos hlt, Nat.zero_add]

/-- the bounded question, in the search -/
theorem near_step {t y : List Nat} {b : Nat} (ht : ∀ x ∈ t, x ∈ AL) (hy : ∀ x ∈ y, x ∈ AL) (lt : t.length ≤ 40) (ly : y.length ≤ 40) : decide (levF price t y ((b : Int) - 1) < b) = decide (L lp t y < b) ∧ (L lp t y < b → levF price t y ((b : Int) - 1) = (L lp t y : Nat)) := by
  have := levF_ok price_ok t y ((b : Int) - 1) lt ly
  rw [L_price ht hy] at this
  constructor
  · exact decide_eq_decide.mpr (by omega)
  · omega
theorem told_ok {t y : List Nat} (ht : ∀ x ∈ t, x ∈ AL) (hy : ∀ x ∈ y, x ∈ AL) (lt : t.length ≤ 40) (ly : y.length ≤ 40) (r : Int) (hr : 0 ≤ r) : levF price y t ((L lp t y : Nat) - 1 + r) = ((L lp t y : Nat) : Int) := by
  have := levF_ok price_ok y t ((L lp t y : Nat) - 1 + r) ly lt
  rw [L_symm price_ok y t, L_price ht hy] at this
  omega
theorem wide_ok (y : List Nat) (c : Nat) (mc : Int) : levF price y ((y.take c ++ [63, 63]) ++ y.drop c) mc = 4 := by
  have e : y = y.take c ++ y.drop c := (List.take_append_drop c y).symm
  have h := (levF_run price_ok (y.take c) [63, 63] (y.drop c) mc).1
  rw [← e, ← List.append_assoc] at h
  rw [h]
  have : L price y ((y.take c ++ [63, 63]) ++ y.drop c) = 4 := by
    conv => lhs; arg 2; rw [e]
    rw [List.append_assoc, L_pre price_ok]
    have := L_post price_ok (y.drop c) [] [63, 63]
    rw [List.nil_append] at this
    rw [this, L_nil_l]; rfl
  rw [this]; rfl

/-- four question marks -/
noncomputable def s22 : Nat → Nat → Nat := fun _ _ => 2
theorem go_const (c : Nat) : ∀ (a row : List Nat) (d r : Nat), (∀ x ∈ a, price c x = 2) → goRow price c a row d r = goRow s22 0 (List.replicate a.length 0) row d r
  | [], _, _, _, _ => rfl
  | x :: a, [], _, _, _ => rfl
  | x :: a, q :: row, d, r, h => by
    show min (min r q + 2) (d + price c x) :: goRow price c a row q (min (min r q + 2) (d + price c x)) = min (min r q + 2) (d + 2) :: goRow s22 0 (List.replicate a.length 0) row q (min (min r q + 2) (d + 2))
    rw [h x List.mem_cons_self, go_const c a row _ _ fun y hy => h y (List.mem_cons_of_mem _ hy)]
theorem outer_const (a : List Nat) (mc : Int) (h : ∀ x ∈ a, price 63 x = 2) : ∀ (n i : Nat) (row : List Nat) (res : Nat), outer price a mc (List.replicate n 63) i row res = outer s22 (List.replicate a.length 0) mc (List.replicate n 0) i row res
  | 0, _, _, _ => rfl
  | n + 1, i, row, res => by
    rw [List.replicate_succ, List.replicate_succ]
    simp only [outer, go_const 63 a row _ _ h]
    rw [outer_const a mc h n]
noncomputable def strF (n : Nat) (mc : Int) : Int := if mc < 2 * ((4 : Int) - (n : Int)) then mc + 1 else outer s22 (List.replicate n 0) mc (List.replicate 4 0) 0 (evens n) 0
theorem str_val : ∀ n : Nat, n < 3 → ∀ v : Nat, v < 7 → strF (n + 1) (2 + (v : Int)) = min 8 (3 + (v : Int)) := by decide +kernel
theorem cp_zero {x y : Nat} (h : x ≠ y) (a b : List Nat) : cp (x :: a) (y :: b) = 0 := by
  show (if x = y then cp a b + 1 else 0) = 0
  rw [if_neg h]
theorem strange_ok {y : List Nat} (hy : ∀ x ∈ y, x ∈ AL) (hl : y.length ≤ 3) (v : Nat) (hv : v < 7) : levF price [63, 63, 63, 63] y (2 + (v : Int)) = if y = [] then 8 else min 8 (3 + (v : Int)) := by
  cases y with
  | nil => rfl
  | cons x r =>
    rw [if_neg (List.cons_ne_nil x r)]
    have hq := fun z hz => price_q z (hy z hz)
    have h1 : levF price [63, 63, 63, 63] (x :: r) (2 + (v : Int)) = levS price (2 + (v : Int)) [63, 63, 63, 63] (x :: r) := by
      unfold levF
      rw [if_neg (fun e => (hq x List.mem_cons_self).2 (List.cons.inj e).1), cp_zero (hq x List.mem_cons_self).2, List.drop_zero, List.drop_zero]
      have : cp ([63, 63, 63, 63] : List Nat).reverse (x :: r).reverse = 0 := by
        cases hr : (x :: r).reverse with
        | nil => rfl
        | cons z q => exact cp_zero (hq z (List.mem_reverse.mp (hr ▸ List.mem_cons_self))).2 _ _
      rw [this]
      unfold cut
      rw [Nat.sub_zero, Nat.sub_zero, List.take_length, List.take_length]
    have hlen : (x :: r).length < ([63, 63, 63, 63] : List Nat).length := Nat.lt_succ_of_le hl
    have h2 : levS price (2 + (v : Int)) [63, 63, 63, 63] (x :: r) = levT price (2 + (v : Int)) (x :: r) [63, 63, 63, 63] := by
      unfold levS
      rw [if_neg (fun h => h.elim (List.cons_ne_nil _ _) (List.cons_ne_nil _ _)), if_neg (fun h => h.elim (by decide) (fun h => absurd (Nat.lt_of_lt_of_le h hl) (by decide))), if_pos hlen]
    have h3 : levT price (2 + (v : Int)) (x :: r) [63, 63, 63, 63] = strF (x :: r).length (2 + (v : Int)) := by
      unfold levT strF
      have := outer_const (x :: r) (2 + (v : Int)) (fun z hz => (hq z hz).1) 4 0 (evens (x :: r).length) 0
      rw [show ([63, 63, 63, 63] : List Nat) = List.replicate 4 63 from rfl, this]; rfl
    rw [h1, h2, h3, List.length_cons, str_val r.length hl v hv]
end Mine

end

section
open PySem PySem.W PyProof.Rows
set_option Elab.async false
namespace Mine

theorem all_nil (l : List (Str × D)) (J : PE) : (stOf l [] J).all = mkJ J l := by
  funext y
  unfold St.all stOf mkO
  dsimp only
  cases mkJ J l y <;> rfl
noncomputable def cmL (e : Expr) : Expr := bG e 0
noncomputable def cmR (e : Expr) : Expr := bG e 1
noncomputable def cmP (e : Expr) : Pos := e.pos
theorem eq_same {d : D} (h : eqD d d = some true) : cmpD .Eq d d = some (.bool true) := by
  show (eqD d d).map D.bool = _
  rw [h]; rfl
theorem mapI4 (a b c d : D) : mapI [some a, some b, some c, some d] = some [a, b, c, d] := rfl

/-- the names of the law, as they come -/
noncomputable def uA (a nb dr : D) (o t dp : Int) : List (Str × D) := [(Str.ofString "script", a), (Str.ofString "numbers", nb), (Str.ofString "draws", dr), (Str.ofString "one", .int o), (Str.ofString "two", .int t), (Str.ofString "deep", .int dp)]
noncomputable def uB (a nb dr : D) (o t dp : Int) (S : D) (sg ty : List Nat) : List (Str × D) := uA a nb dr o t dp ++ [(Str.ofString "sides", S), (Str.ofString "signs", .str (strL sg)), (Str.ofString "typed", .str (strL ty))]
noncomputable def uC (a nb dr : D) (o t dp : Int) (S : D) (sg ty : List Nat) (R K T P H : D) : List (Str × D) := uB a nb dr o t dp S sg ty ++ [(Str.ofString "rows", R), (Str.ofString "book", K), (Str.ofString "texts", T), (Str.ofString "prices", P), (Str.ofString "heads", H)]
noncomputable def fD : Option Nat → D
  | none => .none
  | some i => .int i
noncomputable def uD (a nb dr : D) (o t dp : Int) (S : D) (sg ty : List Nat) (R K T P H : D) (N ct q : Int) : List (Str × D) := uC a nb dr o t dp S sg ty R K T P H ++ [(Str.ofString "total", .int N), (Str.ofString "cut", .int ct), (Str.ofString "strange", .int q), (Str.ofString "widened", .int 4)]
noncomputable def uE (a nb dr : D) (o t dp : Int) (S : D) (sg ty : List Nat) (R K T P H : D) (N ct q : Int) (b : Nat) (f : Option Nat) : List (Str × D) := uD a nb dr o t dp S sg ty R K T P H N ct q ++ [(Str.ofString "best", .int b), (Str.ofString "found", fD f)]
noncomputable def txD (Tp : List (List Int)) : D := .list (Tp.map fun a => .str (strL (txs a)))
noncomputable def prD (Tp : List (List Int)) (ty : List Nat) : D := .list (Tp.map fun a => rowT ty (txs a) 0)

section
variable {a nb dr S R K H : D} {o t dp N q : Int} {sg ty : List Nat} {Tp : List (List Int)} {ct : Nat}

theorem loop_turn {b i m : Nat} {f : Option Nat} {x : List Int} {J : PE} {Q : Option D → St → Prop} (hx : Tp[i]? = some x) (hA : (∀ c ∈ txs x, c ∈ AL) ∧ (txs x).length ≤ 40) (hy : ∀ c ∈ ty, c ∈ AL) (ly : ty.length ≤ 3) (hct : ct ≤ ty.length)
    (hQ : ∀ J', Q none (stOf (if L lp (txs x) (ty.take ct) < b then uE a nb dr o t dp S sg ty R K (txD Tp) (prD Tp ty) H N ct q (L lp (txs x) (ty.take ct)) (some i) else uE a nb dr o t dp S sg ty R K (txD Tp) (prD Tp ty) H N ct q b f) [] J')) :
    ∃ st', bindS (wT (st3 13 19)) (.int (i : Int)) (stOf (uE a nb dr o t dp S sg ty R K (txD Tp) (prD Tp ty) H N ct q b f) [] J) = some st' ∧ WP (exs (k3 13) (m + 20) (d3 13).sc st' (wB (st3 13 19))) Q := by
  have hi := (List.getElem?_eq_some_iff.mp hx).1
  have eT : itemD (txD Tp) (.int (i : Int)) = some (.str (strL (txs x))) := by
    show (idxD _ _).bind _ = _
    rw [idx_nat (by rw [List.length_map]; exact hi), Option.bind_some, List.getElem?_map, hx]; rfl
  have eP : (itemD (prD Tp ty) (.int (i : Int))).bind (fun d => itemD d (.int (-1))) = some (.int ((L lp (txs x) ty : Nat) : Int)) := by
    have : itemD (prD Tp ty) (.int (i : Int)) = some (rowT ty (txs x) 0) := by
      show (idxD _ _).bind _ = _
      rw [idx_nat (by rw [List.length_map]; exact hi), Option.bind_some, List.getElem?_map, hx]; rfl
    rw [this, Option.bind_some, rowT, Nat.sub_zero, item_last, List.drop_zero, List.take_length]
  have l40 : ty.length ≤ 40 := Nat.le_trans ly (by decide)
  have lc : (ty.take ct).length ≤ 40 := Nat.le_trans (takeLe _ _) l40
  have hyc : ∀ c ∈ ty.take ct, c ∈ AL := fun c hc => hy c (List.mem_of_mem_take hc)
  have htold := told_ok hA.1 hy hA.2 l40 ((i : Int).fmod 3) (Int.fmod_nonneg_of_pos _ (by decide))
  obtain ⟨n1, n2⟩ := near_step (b := b) hA.1 hyc hA.2 lc
  have w1 := lev_walk ty (txs x) ((L lp (txs x) ty : Nat) - 1 + (i : Int).fmod 3) (Nat.le_trans l40 (by decide)) (Nat.le_trans hA.2 (by decide))
  have w2 := lev_walk (txs x) (ty.take ct) ((b : Int) - 1) (Nat.le_trans hA.2 (by decide)) (Nat.le_trans lc (by decide))
  rw [htold] at w1
  generalize txD Tp = T at *
  generalize prD Tp ty = P at *
  generalize L lp (txs x) ty = V at *
  generalize L lp (txs x) (ty.take ct) = v at *
  generalize levF price (txs x) (ty.take ct) ((b : Int) - 1) = nr at *
  refine ⟨_, bind1 (l' := uE a nb dr o t dp S sg ty R K T P H N ct q b f ++ [(Str.ofString "k", .int i)]) (o' := []) (Str.ofString "k") (by kernel_rfl) (by kernel_rfl) (by kernel_rfl), ?_⟩
  refine wp_set1 (n := m + 18) (Str.ofString "told") (.int V) (uE a nb dr o t dp S sg ty R K T P H N ct q b f ++ [(Str.ofString "k", .int i), (Str.ofString "told", .int V)]) [] (by kernel_rfl) (by kernel_rfl) ?_ (by kernel_rfl) (by kernel_rfl) ?_
  · refine Eq.trans (b := (mapI [some (.str (strL ty)), itemD T (.int (i : Int)), bind2 (bind2 ((itemD P (.int (i : Int))).bind fun d => itemD d (.int (-1))) (some (.int 1)) (binD .Sub)) (some (.int ((i : Int).fmod 3))) (binD .Add)]).bind (f3 1)) (by kernel_rfl) ?_
    rw [eT, eP]; exact w1
  refine wp_if0 (n := m + 16) false ?_ (fun e => by cases e) fun _ => ?_
  · rw [all_nil]
    show (boolG .Or (ev (k3 13) (m + 16) (d3 13).sc (mkJ J (uE a nb dr o t dp S sg ty R K T P H N ct q b f ++ [(Str.ofString "k", .int i), (Str.ofString "told", .int V)]))) [bG (wI ((wB (st3 13 19)).getD 1 stN)) 0, bG (wI ((wB (st3 13 19)).getD 1 stN)) 1, bG (wI ((wB (st3 13 19)).getD 1 stN)) 2]).bind truth = _
    have h2 : (ev (k3 13) (m + 16) (d3 13).sc (mkJ J (uE a nb dr o t dp S sg ty R K T P H N ct q b f ++ [(Str.ofString "k", .int i), (Str.ofString "told", .int V)])) (bG (wI ((wB (st3 13 19)).getD 1 stN)) 2)).bind truth = some false := by
      refine Eq.trans (b := (((itemD P (.int (i : Int))).bind fun d => itemD d (.int (-1))).bind fun y => cmpD .NotEq (.int V) y).bind truth) (by kernel_rfl) ?_
      rw [eP]; exact ne_same (eqI_refl 4 _)
    exact or_cons (t := false) (u := false) (by kernel_rfl) fun _ => or_cons (t := false) (u := false) (by kernel_rfl) fun _ => h2
  refine wp_set1 (n := m + 16) (Str.ofString "nearer") (.int nr) (uE a nb dr o t dp S sg ty R K T P H N ct q b f ++ [(Str.ofString "k", .int i), (Str.ofString "told", .int V), (Str.ofString "nearer", .int nr)]) [] (by kernel_rfl) (by kernel_rfl) ?_ (by kernel_rfl) (by kernel_rfl) ?_
  · refine Eq.trans (b := (mapI [itemD T (.int (i : Int)), some (.str (strL (cutL ty none (some (ct : Int)) 1))), some (.int ((b : Int) - 1))]).bind (f3 1)) (by kernel_rfl) ?_
    rw [eT, cut_upto]; exact w2
  refine wp_if0 (n := m + 14) (decide (v < b)) (Eq.trans (b := some (decide (nr < (b : Int)))) (by kernel_rfl) (congrArg some n1)) (fun h => ?_) fun h => wp_nil ?_
  · have h := of_decide_eq_true h
    rw [if_pos h] at hQ
    have hv := n2 h
    subst hv
    refine wp_tup2 (n := m + 13) (Str.ofString "best") (Str.ofString "found") (.int (v : Int)) (.int (i : Int)) (uE a nb dr o t dp S sg ty R K T P H N ct q v (some i) ++ [(Str.ofString "k", .int i), (Str.ofString "told", .int V), (Str.ofString "nearer", .int (v : Int))]) [] (by kernel_rfl) (by decide +kernel) (by kernel_rfl) (by kernel_rfl) (by kernel_rfl) (by kernel_rfl) (by kernel_rfl) (by kernel_rfl) (wp_nil (wp_nil ?_))
    rw [stOf_app]; exact hQ _
  · rw [if_neg (of_decide_eq_false h)] at hQ
    rw [stOf_app]; exact hQ _

inductive LoI (a nb dr S R K H : D) (o t dp N q : Int) (sg ty : List Nat) (Tp : List (List Int)) (ct : Nat) (vs : List Nat) (rest : List D) (st : St) : Prop where
  | mk (i b : Nat) (f : Option Nat) (J : PE) : i ≤ Tp.length → rest = ((List.range' i (Tp.length - i)).map fun (i : Nat) => .int i) → rn vs 0 100 none = rn (vs.drop i) i b f → st = stOf (uE a nb dr o t dp S sg ty R K (txD Tp) (prD Tp ty) H N ct q b f) [] J → LoI a nb dr S R K H o t dp N q sg ty Tp ct vs rest st

theorem law_tail (hT : Tp ≠ []) (hn : Tp.length ≤ 100) (hA : ∀ x ∈ Tp, (∀ c ∈ txs x, c ∈ AL) ∧ (txs x).length ≤ 40) (hy : ∀ c ∈ ty, c ∈ AL) (ly : ty.length ≤ 3) (hct : ct ≤ ty.length) :
    WP (exs (k3 13) 382 (d3 13).sc (stOf (uD a nb dr o t dp S sg ty R K (txD Tp) (prD Tp ty) H N ct q) []) ((d3 13).body.drop 18)) fun o _ => o.getD .none = .bool true := by
  refine wp_tup2 (n := 380) (Str.ofString "best") (Str.ofString "found") (.int ((100 : Nat) : Int)) .none (uE a nb dr o t dp S sg ty R K (txD Tp) (prD Tp ty) H N ct q 100 none) [] (by kernel_rfl) (by decide +kernel) (by kernel_rfl) (by kernel_rfl) (by kernel_rfl) (by kernel_rfl) (by kernel_rfl) (by kernel_rfl) ?_
  refine wp_for1 (n := 379) ((List.range Tp.length).map fun (i : Nat) => .int i) (by kernel_rfl) (by kernel_rfl) ?_ ?_
  · refine Eq.trans (b := (if rOk 0 (((Tp.map fun a => D.str (strL (txs a))).length : Nat) : Int) 1 = true then some (D.range 0 (((Tp.map fun a => D.str (strL (txs a))).length : Nat) : Int) 1) else none).bind itemsD) (by kernel_rfl) ?_
    rw [List.length_map]; exact items_n (Nat.le_trans hn (by decide))
  obtain ⟨vs, hvs⟩ : ∃ vs, (Tp.map fun a => L lp (txs a) (ty.take ct)) = vs := ⟨_, rfl⟩
  have hvl : vs.length = Tp.length := by rw [← hvs, List.length_map]
  have hlt : ∀ v ∈ vs, v < 100 := by
    intro v hv
    rw [← hvs] at hv
    obtain ⟨x, hx, rfl⟩ := List.mem_map.mp hv
    have h1 := L_append_le (s := lp) (txs x) [] [] (ty.take ct)
    rw [List.append_nil, List.nil_append, L_nil_r, L_nil_l] at h1
    have h2 := (hA x hx).2
    have h3 := Nat.le_trans (takeLe ct ty) ly
    omega
  obtain ⟨mn, m1, m2, m3⟩ := rn_end (l := vs) (by rw [← hvs]; exact fun h => hT (List.map_eq_nil_iff.mp h)) hlt
  have key := wp_exf (C := k3 13) (sc := (d3 13).sc) (t := wT (st3 13 19)) (b := wB (st3 13 19)) (K := 20) (Q := Nx (k3 13) 380 (d3 13).sc ((d3 13).body.drop 20) fun o _ => o.getD .none = .bool true) (LoI a nb dr S R K H o t dp N q sg ty Tp ct vs) ?_ ?_
    ((List.range Tp.length).map fun (i : Nat) => .int i) (358 - Tp.length) (stOf (uE a nb dr o t dp S sg ty R K (txD Tp) (prD Tp ty) H N ct q 100 none) []) ⟨0, 100, none, nil0, Nat.zero_le _, by rw [List.range_eq_range', Nat.sub_zero], rfl, rfl⟩
  · rw [List.length_map, List.length_range, show 358 - Tp.length + Tp.length + (20 + 1) = 379 from congrArg (· + 21) (Nat.sub_add_cancel (Nat.le_trans hn (by decide)))] at key
    exact key
  · rintro d rest m st ⟨i, b, f, J, g1, g2, g3, rfl⟩
    cases hj : Tp.length - i with
    | zero => rw [hj] at g2; cases g2
    | succ j' =>
      rw [hj, List.range'_succ] at g2
      obtain ⟨rfl, rfl⟩ := List.cons.inj g2
      have hi : i < Tp.length := Nat.lt_of_sub_eq_succ hj
      have hx : Tp[i]? = some Tp[i] := List.getElem?_eq_getElem hi
      have hd : vs.drop i = L lp (txs Tp[i]) (ty.take ct) :: vs.drop (i + 1) := by
        have h1 : i < vs.length := hvl ▸ hi
        rw [List.drop_eq_getElem_cons h1]
        congr 1
        have : vs[i]? = some (L lp (txs Tp[i]) (ty.take ct)) := by rw [← hvs, List.getElem?_map, hx]; rfl
        exact (List.getElem?_eq_some_iff.mp this).2
      rw [hd] at g3
      refine loop_turn hx (hA _ (List.getElem_mem hi)) hy ly hct fun J' => ?_
      have hr : Tp.length - (i + 1) = j' := by rw [← Nat.sub_sub, hj]; rfl
      by_cases hv : L lp (txs Tp[i]) (ty.take ct) < b
      · rw [if_pos hv]
        exact ⟨i + 1, _, some i, J', hi, by rw [hr], by rw [g3]; show (if _ < b then _ else _) = _; rw [if_pos hv], rfl⟩
      · rw [if_neg hv]
        exact ⟨i + 1, b, f, J', hi, by rw [hr], by rw [g3]; show (if _ < b then _ else _) = _; rw [if_neg hv], rfl⟩
  · rintro st ⟨i, b, f, J, g1, g2, g3, rfl⟩
    cases hj : Tp.length - i with
    | succ j' => rw [hj, List.range'_succ] at g2; cases g2
    | zero =>
      have hd : vs.drop i = [] := List.drop_of_length_le (by rw [hvl]; exact Nat.le_of_sub_eq_zero hj)
      rw [hd, m3] at g3
      have g3 : (mn, some (vs.idxOf mn)) = (b, f) := g3
      obtain ⟨rfl, rfl⟩ := Prod.mk.inj g3
      have hen : (Tp.map fun a => D.int ((L lp (txs a) (ty.take ct) : Nat) : Int)) = vs.map fun (n : Nat) => D.int n := by rw [← hvs, List.map_map]; rfl
      refine wp_set1 (n := 378) (Str.ofString "ends") (.list (vs.map fun (n : Nat) => D.int n)) (uE a nb dr o t dp S sg ty R K (txD Tp) (prD Tp ty) H N ct q mn (some (vs.idxOf mn)) ++ [(Str.ofString "ends", .list (vs.map fun (n : Nat) => D.int n))]) [] (by kernel_rfl) (by kernel_rfl) ?_ (by kernel_rfl) (by kernel_rfl) ?_
      · rw [← hen]
        refine ev_compE (xs := Tp) (fun a => rowT ty (txs a) 0) (fun a => .int ((L lp (txs a) (ty.take ct) : Nat) : Int)) (by kernel_rfl) (by kernel_rfl) (by kernel_rfl) (fun x _ => ?_) (Nat.le_trans hn (by decide))
        refine compT_name (Str.ofString "row") (by kernel_rfl) ?_
        refine Eq.trans (b := itemD (rowT ty (txs x) 0) (.int (ct : Int))) (by kernel_rfl) ?_
        rw [rowT, Nat.sub_zero, item_range _ _ _ (Nat.lt_succ_of_le hct), List.drop_zero]
      have hmin : callB (Str.ofString "min") [.list (vs.map fun (n : Nat) => D.int n)] = some (.int (mn : Int)) := min_nat m1 m2
      have hidx : callM (.list (vs.map fun (n : Nat) => D.int n)) (Str.ofString "index") [.int (mn : Int)] = some (.int ((vs.idxOf mn : Nat) : Int)) := by
        have e : (vs.map fun (n : Nat) => D.int n) = (vs.map fun (n : Nat) => (n : Int)).map .int := by rw [List.map_map]; rfl
        rw [e]
        show (intsOf ((vs.map fun (n : Nat) => (n : Int)).map .int)).bind (fun xs => (firstAt xs (mn : Int)).map fun (j : Nat) => D.int j) = _
        rw [intsOf_map, Option.bind_some, first_idx vs mn m1]; rfl
      generalize D.list (vs.map fun (n : Nat) => D.int n) = E at hmin hidx ⊢
      generalize vs.idxOf mn = ix at *
      refine wp_ret (n := 377) (.bool true) ?_ rfl
      rw [all_nil]
      show boolG .And (ev (k3 13) 376 (d3 13).sc (mkJ J (uE a nb dr o t dp S sg ty R K (txD Tp) (prD Tp ty) H N ct q mn (some ix) ++ [(Str.ofString "ends", E)]))) [bG (rE (st3 13 21)) 0, bG (rE (st3 13 21)) 1] = _
      rw [and_true (d := .bool true) (by kernel_rfl) rfl, bool_last]
      refine Eq.trans (ev_cmp (C := k3 13) (n := 375) (sc := (d3 13).sc) (m := mkJ J (uE a nb dr o t dp S sg ty R K (txD Tp) (prD Tp ty) H N ct q mn (some ix) ++ [(Str.ofString "ends", E)])) (op := .Eq) (l := cmL (bG (rE (st3 13 21)) 1)) (r := cmR (bG (rE (st3 13 21)) 1)) (p := cmP (bG (rE (st3 13 21)) 1))
        (a := .list (([(mn : Int), (ix : Int)] : List Int).map .int)) (b := .list (([(mn : Int), (ix : Int)] : List Int).map .int)) (by kernel_rfl) ?_) (eq_same (eq_ints 3 _))
      refine Eq.trans (b := (mapI [(mapI [some E]).bind (callB (Str.ofString "min")), (some E).bind fun d => (mapI [(mapI [some E]).bind (callB (Str.ofString "min"))]).bind fun ds => callM d (Str.ofString "index") ds]).bind mkL) (by kernel_rfl) ?_
      rw [mapI1, Option.bind_some, Option.bind_some, hmin, mapI1, Option.bind_some, hidx]; rfl
end
end Mine

end

section
open PySem PySem.W PyProof.Rows
set_option Elab.async false
namespace Mine

noncomputable def nums (is : List Int) : List Int := (is.take 60).map fun x => x.fmod (10 ^ 6)
theorem sum_pos : ∀ l : List Int, (∀ x ∈ l, 0 ≤ x) → 0 ≤ l.sum
  | [], _ => Int.le_refl 0
  | x :: l, h => by rw [List.sum_cons]; exact Int.add_nonneg (h x List.mem_cons_self) (sum_pos l fun y hy => h y (List.mem_cons_of_mem _ hy))
theorem nums_pos (is : List Int) : 0 ≤ (nums is).sum := sum_pos _ fun x hx => by
  obtain ⟨y, _, rfl⟩ := List.mem_map.mp hx
  exact Int.fmod_nonneg_of_pos y (by decide)
theorem cutL_map {α β : Type} (f : α → β) (l : List α) (lo hi : Option Int) (st : Int) : cutL (l.map f) lo hi st = (cutL l lo hi st).map f := by
  unfold cutL
  rw [List.length_map, List.map_filterMap]
  congr 1
  funext i
  rw [List.getElem?_map]
theorem nils {α β : Type} : ∀ l : List α, (l.map fun _ => ([] : List β)).flatten = []
  | [] => rfl
  | _ :: l => by rw [List.map_cons, List.flatten_cons, nils l]; rfl
theorem ones {α β : Type} (f : α → β) : ∀ l : List α, (l.map fun x => [f x]).flatten = l.map f
  | [] => rfl
  | _ :: l => by rw [List.map_cons, List.flatten_cons, ones f l]; rfl

noncomputable def dw (ns : List Int) (p : Int × Int) : Int := p.2 + (cutL ns (some p.1) none 5).sum
theorem draws_val (a : D) (ns : List Int) : ev (k3 13) 397 (d3 13).sc (mkP [(Str.ofString "script", a), (Str.ofString "numbers", .list (ns.map .int))]) (rE (st3 13 1)) = some (drD (dw ns (0, 380)) (dw ns (1, 8)) (dw ns (2, 1062)) (dw ns (3, 103)) (dw ns (4, 203))) := by
  refine ev_compE (xs := [(0, 380), (1, 8), (2, 1062), (3, 103), (4, 203)]) (fun (p : Int × Int) => .tuple [.int p.1, .int p.2]) (fun p => .int (dw ns p)) (by kernel_rfl) (by kernel_rfl) (by kernel_rfl) (fun p _ => ?_) (by show 5 ≤ lim; decide)
  refine compT_ok rfl ?_
  refine Eq.trans (b := bind2 (some (.int p.2)) ((mapI [some (.list (cutL (ns.map .int) (some p.1) none 5))]).bind (callB (Str.ofString "sum"))) (binD .Add)) (by kernel_rfl) ?_
  rw [cutL_map, mapI1, Option.bind_some, sum_ok]; rfl

section
variable {a nb dr S R K T P H : D} {o t dp : Int} {sg ty : List Nat} {Tp : List (List Int)}

noncomputable def fi (e4 : Int) (k : Nat) : Nat := ((e4.fdiv (9 ^ k)).fmod 9).toNat
theorem fi_is (e4 : Int) (k : Nat) : (e4.fdiv (9 ^ k)).fmod 9 = (fi e4 k : Int) := by
  obtain ⟨i, h1, h2⟩ := fmod_is (e4.fdiv (9 ^ k)) 9 (by decide)
  have h2 : (e4.fdiv (9 ^ k)).fmod 9 = (i : Int) := h2
  unfold fi
  rw [h2]; rfl
noncomputable def tyOf (sg : List Nat) (e4 : Int) : List Nat := ((List.range 3).map fun k => (sg.drop (fi e4 k)).take 1).flatten
theorem ty_one (sg : List Nat) (e4 : Int) : ∀ l : List Nat, (((l.map fun k => (sg.drop (fi e4 k)).take 1).flatten).length ≤ l.length) ∧ ∀ c ∈ (l.map fun k => (sg.drop (fi e4 k)).take 1).flatten, c ∈ sg
  | [] => ⟨Nat.le_refl 0, fun _ h => nomatch h⟩
  | k :: l => by
    obtain ⟨h1, h2⟩ := ty_one sg e4 l
    rw [List.map_cons, List.flatten_cons]
    constructor
    · rw [List.length_append, List.length_cons, Nat.add_comm]
      exact Nat.add_le_add h1 (by rw [List.length_take]; exact Nat.min_le_left _ _)
    · intro c hc
      rcases List.mem_append.mp hc with h | h
      · exact List.mem_of_mem_drop (List.mem_of_mem_take h)
      · exact h2 c h
theorem ty_len (sg : List Nat) (e4 : Int) : (tyOf sg e4).length ≤ 3 := (ty_one sg e4 (List.range 3)).1
theorem ty_mem (sg : List Nat) (e4 : Int) : ∀ c ∈ tyOf sg e4, c ∈ sg := (ty_one sg e4 (List.range 3)).2
theorem cut_one (sg : List Nat) (e4 : Int) (k : Nat) : cutL (cutL sg (some ((e4.fdiv (9 ^ k)).fmod 9)) none 1) none (some 1) 1 = (sg.drop (fi e4 k)).take 1 := by
  rw [fi_is, cut_from]
  exact cut_upto _ 1
theorem typed_val (e0 e1 e2 e3 e4 : Int) : ev (k3 13) 393 (d3 13).sc (mkP (uA a nb (drD e0 e1 e2 e3 e4) o t dp ++ [(Str.ofString "sides", S), (Str.ofString "signs", .str (strL sg))])) (rE (st3 13 5)) = some (.str (strL (tyOf sg e4))) := by
  have hj := join_ok ((List.range 3).map fun k => (sg.drop (fi e4 k)).take 1) (Nat.le_trans (ty_len sg e4) (by decide))
  refine Eq.trans (ev_callM (n := 392) (d := .str Str.empty) (ds := [.list (((List.range 3).map fun k => (sg.drop (fi e4 k)).take 1).map fun x => D.str (strL x))]) (by kernel_rfl) (by kernel_rfl) (map1 ?_)) hj
  rw [List.map_map]
  refine ev_compE (xs := List.range 3) (fun (k : Nat) => .int k) _ (by kernel_rfl) (by kernel_rfl) (by kernel_rfl) (fun k hk => ?_) (by show 3 ≤ lim; decide)
  refine compT_name (Str.ofString "k") (by kernel_rfl) ?_
  show _ = some (D.str (strL ((sg.drop (fi e4 k)).take 1)))
  rw [← cut_one]
  rcases ((by decide : ∀ n < 3, n = 0 ∨ n = 1 ∨ n = 2) k (List.mem_range.mp hk)) with rfl | rfl | rfl
  · kernel_rfl
  · kernel_rfl
  · kernel_rfl

theorem rows_val {G : Gr} (ok : GOk G sg) (hd : 258 ≤ dp) : ev (k3 13) 392 (d3 13).sc (mkP (uA a nb dr o t dp ++ [(Str.ofString "sides", sdD G dp), (Str.ofString "signs", .str (strL sg)), (Str.ofString "typed", .str (strL ty))])) (rE (st3 13 6)) = some (.list ((ge3 G .tp).map cD)) := by
  have hw := derived_walk ok hd
  rw [fn_done ok.gr] at hw
  have e1 : rwD dp ((ge3 G .tp).map fun x => x.map .t) = (ge3 G .tp).map cD := by
    unfold rwD
    rw [List.map_map]
    refine List.map_congr_left fun x _ => ?_
    show D.list (((toF x).map (nmb dp)).map .int) = _
    rw [toF_nmb]; rfl
  rw [e1] at hw
  refine Eq.trans (ev_callF (n := 391) (F := f3 7) (ds := [.list ((flatL G dp).map .int), hdD dp]) (by kernel_rfl) (by kernel_rfl) (map2 ?_ (by kernel_rfl))) hw
  have e2 : (flatL G dp).map D.int = (([G.a0, G.a1, G.b0, G.b1, G.c0, G.c1].map fun s => (s.map (nmb dp) ++ [0]).map D.int)).flatten := by
    unfold flatL
    rw [List.map_flatten, List.map_map]; rfl
  have e3 := flat_len ok dp
  rw [e2]
  refine ev_comp22 (xs := [G.a0, G.a1, G.b0, G.b1, G.c0, G.c1]) (foD dp) (fun s => (s.map (nmb dp) ++ [0]).map D.int) (by kernel_rfl) (by kernel_rfl) (by kernel_rfl) (fun s hs => ?_) (by rw [← e2, List.length_map]; exact Nat.le_trans e3 (by decide))
  rw [← ones D.int (s.map (nmb dp) ++ [0])]
  refine comp2_name (Str.ofString "side") (xs := s.map (nmb dp) ++ [0]) D.int (fun z => [D.int z]) (by kernel_rfl) ?_ (by kernel_rfl) (fun z _ => compT_name (Str.ofString "number") (by kernel_rfl) (by kernel_rfl))
  refine Eq.trans (b := (binD .Add (cD (s.map (nmb dp))) (cD [0])).bind itemsD) (by kernel_rfl) ?_
  rw [add_c (by rw [List.length_map]; exact Nat.le_trans (Nat.add_le_add_right (ok.len s hs) 1) (by decide))]; rfl

theorem cond7 (hT : ∀ x ∈ Tp, ∀ z ∈ x, z ∈ TZ) : (ev (k3 13) 391 (d3 13).sc (mkP (uB a nb dr o t dp S sg ty ++ [(Str.ofString "rows", .list (Tp.map cD))])) (wI (st3 13 7))).bind truth = some false := by
  have e := ev_cmp (C := k3 13) (n := 390) (sc := (d3 13).sc) (m := mkP (uB a nb dr o t dp S sg ty ++ [(Str.ofString "rows", .list (Tp.map cD))])) (op := .NotEq) (l := cmL (wI (st3 13 7))) (r := cmR (wI (st3 13 7))) (p := cmP (wI (st3 13 7))) (a := .list []) (b := .list []) ?_ (by kernel_rfl)
  · exact Eq.trans (congrArg (fun o => Option.bind o truth) e) rfl
  · refine Eq.trans (ev_comp22 (xs := Tp) cD (fun _ => []) (by kernel_rfl) (by kernel_rfl) (by kernel_rfl) (fun zs hz => ?_) (by rw [nils]; exact Nat.zero_le _)) (by rw [nils])
    refine Eq.trans (comp2_name (Str.ofString "row") (xs := zs) D.int (fun _ => []) (by kernel_rfl) (by kernel_rfl) (by kernel_rfl) (fun z h => ?_)) (by rw [nils])
    refine compT_if (Str.ofString "number") (c := false) (by kernel_rfl) ?_ (fun q => by cases q) (r := .none)
    obtain ⟨h1, h2, h3⟩ := tz_facts z (hT zs hz z h)
    refine Eq.trans (b := (((mapI [some (.int z), some (.bool true)]).bind (f3 8)).bind (unD .Not)).bind truth) (by kernel_rfl) ?_
    rw [mapI2, Option.bind_some, judged_ok z true h1 h2 h3]; rfl

noncomputable def bkI : List Nat := [47, 21, 17, 33, 12, 34, 0, 1, 9, 28, 39, 31, 7, 29, 5, 8, 30, 44, 16, 45, 10, 40, 41, 32, 4, 46, 6, 13, 26, 37, 22, 15, 20, 14, 23, 27, 38, 42, 43, 2, 3, 25, 36, 18, 11, 35, 19, 24]
noncomputable def bkD : D := knD (bkI.map fun (i : Nat) => 7 + (i : Int)) (bkI.map fun i => .str (strL (ops.getD i [])))
theorem book_val : ev (k3 13) 390 (d3 13).sc (mkP (uB a nb dr o t dp S sg ty ++ [(Str.ofString "rows", R)])) (rE (st3 13 8)) = some bkD := by kernel_rfl
theorem lk_of (F : Nat → D) (i : Nat) : ∀ l : List Nat, i ∈ l → lkI (l.map fun (i : Nat) => 7 + (i : Int)) (l.map F) (7 + (i : Int)) = some (F i)
  | j :: l, h => by
    show (if (7 + (j : Int)) = 7 + (i : Int) then some (F j) else lkI (l.map fun (i : Nat) => 7 + (i : Int)) (l.map F) (7 + (i : Int))) = _
    by_cases g : j = i
    · rw [g, if_pos rfl]
    · rw [if_neg (by omega), lk_of F i l ((List.mem_cons.mp h).resolve_left fun h => g h.symm)]
theorem bk_item (i : Nat) (h : i < 48) : itemD bkD (.int (7 + (i : Int))) = some (.str (strL (tx (7 + (i : Int))))) := by
  unfold bkD
  rw [item_i (by rw [List.length_map, List.length_map]), lk_of (fun i => .str (strL (ops.getD i []))) i bkI ((by decide : ∀ i < 48, i ∈ bkI) i h), (by decide +kernel : ∀ i < 48, tx (7 + ((i : Nat) : Int)) = ops.getD i []) i h]
noncomputable def in3 (z : Int) : Bool := (255 == z) || ((1 == z) || ((-1 == z) || false))
theorem bk_else : ∀ z ∈ TZ, in3 z = false → ∃ i : Nat, i < 48 ∧ z = 7 + (i : Int) := by
  intro z hz hn
  rcases List.mem_append.mp hz with h | h
  · have : in3 z = true := (by decide : ∀ z ∈ [255, 1, -1], in3 z = true) z h
    rw [this] at hn; cases hn
  · obtain ⟨i, h1, rfl⟩ := List.mem_map.mp h
    exact ⟨i, List.mem_range.mp h1, rfl⟩
theorem number_text (z : Int) (hz : z ∈ TZ) : ifO (some (in3 z)) ((mapI [some (.int z)]).bind (f3 5)) (itemD bkD (.int z)) = some (.str (strL (tx z))) := by
  cases h : in3 z with
  | true => rw [mapI1, Option.bind_some, text_walk z hz]; rfl
  | false =>
    obtain ⟨i, h1, rfl⟩ := bk_else z hz h
    exact bk_item i h1
theorem texts_val (hT : ∀ x ∈ Tp, (∀ z ∈ x, z ∈ TZ) ∧ x.length ≤ 5) (hn : Tp.length ≤ 100) : ev (k3 13) 389 (d3 13).sc (mkP (uB a nb dr o t dp S sg ty ++ [(Str.ofString "rows", .list (Tp.map cD)), (Str.ofString "book", bkD)])) (rE (st3 13 9)) = some (txD Tp) := by
  refine ev_compE (xs := Tp) cD (fun x => .str (strL (txs x))) (by kernel_rfl) (by kernel_rfl) (by kernel_rfl) (fun x hx => ?_) (Nat.le_trans hn (by decide))
  refine compT_name (Str.ofString "row") (by kernel_rfl) ?_
  obtain ⟨h1, h2⟩ := hT x hx
  have h3 := (txs_al h1).2
  have hj := join_ok (x.map tx) (by show (txs x).length ≤ lim; exact Nat.le_trans h3 (Nat.le_trans (Nat.mul_le_mul_left 3 h2) (by decide)))
  refine Eq.trans (ev_callM (n := 387) (d := .str Str.empty) (ds := [.list ((x.map tx).map fun x => D.str (strL x))]) (by kernel_rfl) (by kernel_rfl) (map1 ?_)) hj
  rw [List.map_map]
  refine ev_compE (xs := x) D.int _ (by kernel_rfl) (by kernel_rfl) (by kernel_rfl) (fun z hz => ?_) (Nat.le_trans h2 (by decide))
  refine compT_name (Str.ofString "number") (by kernel_rfl) ?_
  exact Eq.trans (b := ifO (some (in3 z)) ((mapI [some (.int z)]).bind (f3 5)) (itemD bkD (.int z))) (by kernel_rfl) (number_text z (h1 z hz))
theorem heads_val (hd : 258 ≤ dp) : ev (k3 13) 387 (d3 13).sc (mkP (uB a nb dr o t dp S sg ty ++ [(Str.ofString "rows", R), (Str.ofString "book", K), (Str.ofString "texts", T), (Str.ofString "prices", P)])) (rE (st3 13 11)) = some (.list [.bool true, .bool true, .bool true]) := by
  refine ev_compE (xs := [256, 257, dp]) D.int (fun _ => .bool true) (by kernel_rfl) (by kernel_rfl) (by kernel_rfl) (fun z hz => ?_) (by show 3 ≤ lim; decide)
  refine compT_name (Str.ofString "number") (by kernel_rfl) ?_
  refine Eq.trans (b := (mapI [some (.int z), some (.bool false)]).bind (f3 8)) (by kernel_rfl) ?_
  have hz : 256 ≤ z := by
    rcases List.mem_cons.mp hz with rfl | hz
    · decide
    rcases List.mem_cons.mp hz with rfl | hz
    · decide
    rw [List.mem_singleton.mp hz]; omega
  rw [mapI2, Option.bind_some, judged_ok z false (decide_eq_false (by omega)) (decide_eq_true hz) (by rw [beq_eq_false_iff_ne]; omega)]
end
end Mine

end

section
open PySem PySem.W PyProof.Rows
set_option Elab.async false
namespace Mine

theorem gens_ne {g : Sy → List (List Int)} : ∀ s : Form, (∀ X ∈ s, g X ≠ []) → gens g s ≠ []
  | [], _ => fun h => nomatch h
  | X :: r, h => by
    have h1 := h X List.mem_cons_self
    have h2 := gens_ne r fun Y hY => h Y (List.mem_cons_of_mem _ hY)
    obtain ⟨x, lx, e1⟩ := List.exists_cons_of_ne_nil h1
    obtain ⟨y, ly, e2⟩ := List.exists_cons_of_ne_nil h2
    rw [gens_cons, e1, e2]
    exact fun h => nomatch h
theorem app_ne {α : Type} {a b : List α} (h : a ≠ []) : a ++ b ≠ [] := fun e => h (List.append_eq_nil_iff.mp e).1
theorem ge_ne {G : Gr} (ok : GrOk G) : ge3 G .tp ≠ [] := by
  have h1 : ∀ X, dph X ≤ 1 → ge1 G X ≠ [] := fun X hX => by
    cases X with
    | t z => exact fun h => nomatch h
    | dn => exact app_ne (gens_ne _ fun X hX => by
        obtain ⟨z, rfl⟩ := dph_zero (ok.c0 X hX)
        exact fun h => nomatch h)
    | mi => exact absurd hX (by decide)
    | tp => exact absurd hX (by decide)
  have h2 : ∀ X, dph X ≤ 2 → ge2 G X ≠ [] := fun X hX => by
    cases X with
    | t z => exact fun h => nomatch h
    | dn => exact h1 .dn (by decide)
    | mi => exact app_ne (gens_ne _ fun X hX => h1 X (ok.b0.1 X hX))
    | tp => exact absurd hX (by decide)
  exact app_ne (gens_ne _ fun X hX => h2 X (ok.a0.1 X hX))

theorem tz_op (i : Nat) (h : i < 48) : 7 + (i : Int) ∈ TZ := List.mem_append_right _ (List.mem_map.mpr ⟨i, List.mem_range.mpr h, rfl⟩)
noncomputable def sgOf (a b : Int) : List Nat := (tx a ++ tx b) ++ [97, 65, 98]
theorem tok_of {a b z : Int} (ha : a ∈ TZ) (hb : b ∈ TZ) (h : z = a ∨ z = b ∨ z ∈ [255, 1, -1]) : TOk (sgOf a b) z := by
  have hz : z ∈ TZ := by
    rcases h with rfl | rfl | h
    · exact ha
    · exact hb
    · exact List.mem_append_left _ h
  refine ⟨hz, (tz_al z hz).1, fun c hc => ?_⟩
  unfold sgOf
  rcases h with rfl | rfl | h
  · exact List.mem_append_left _ (List.mem_append_left _ hc)
  · exact List.mem_append_left _ (List.mem_append_right _ hc)
  · exact List.mem_append_right _ ((by decide : ∀ z ∈ [255, 1, -1], ∀ c ∈ tx z, c ∈ [97, 65, 98]) z h c hc)
theorem cell_tok {a b : Int} (ha : a ∈ TZ) (hb : b ∈ TZ) (i : Nat) : CellOk (TOk (sgOf a b)) (cell a b i) := by
  refine ⟨cell_len a b i, fun z hz => tok_of ha hb ?_⟩
  unfold cell at hz
  match i, hz with
  | 0, hz => exact .inl (List.mem_singleton.mp hz)
  | 1, hz => exact .inr (.inl (List.mem_singleton.mp hz))
  | 2, hz => rw [List.mem_singleton.mp hz]; exact .inr (.inr (by decide))
  | 3, hz => rw [List.mem_singleton.mp hz]; exact .inr (.inr (by decide))
  | 4, hz => rw [List.mem_singleton.mp hz]; exact .inr (.inr (by decide))
  | 5, hz => cases hz
  | _ + 6, hz => cases hz
theorem sg_al {a b : Int} (ha : a ∈ TZ) (hb : b ∈ TZ) : (∀ c ∈ sgOf a b, c ∈ AL) ∧ (sgOf a b).length ≤ 9 := by
  obtain ⟨l1, m1⟩ := tz_al a ha
  obtain ⟨l2, m2⟩ := tz_al b hb
  unfold sgOf
  constructor
  · intro c hc
    rcases List.mem_append.mp hc with h | h
    · rcases List.mem_append.mp h with h | h
      · exact m1 c h
      · exact m2 c h
    · exact (by decide : ∀ c ∈ [97, 65, 98], c ∈ AL) c h
  · rw [List.length_append, List.length_append]
    exact Nat.add_le_add (Nat.add_le_add l1 l2) (Nat.le_refl 3)
theorem q_val (ty : List Nat) (N : Int) : ifO (some (strL ty == strL [])) (some (.int 8)) (some (.int (min 8 (3 + N.fmod 7)))) = some (.int (if ty = [] then 8 else min 8 (3 + N.fmod 7))) := by
  cases ty with
  | nil => rfl
  | cons c l =>
    rw [if_neg (fun h => nomatch h), show (strL (c :: l) == strL []) = false from by rfl]; rfl

section
variable {a nb dr S R K H : D} {o t dp N q : Int} {sg ty : List Nat} {Tp : List (List Int)} {ct : Nat}
theorem signs_val {o t : Int} (ho : o ∈ TZ) (ht : t ∈ TZ) : ev (k3 13) 394 (d3 13).sc (mkP (uA a nb dr o t dp ++ [(Str.ofString "sides", S)])) (rE (st3 13 4)) = some (.str (strL (sgOf o t))) := by
  refine Eq.trans (b := bind2 (bind2 ((mapI [some (.int o)]).bind (f3 5)) ((mapI [some (.int t)]).bind (f3 5)) (binD .Add)) (some (.str (strL [97, 65, 98]))) (binD .Add)) (by kernel_rfl) ?_
  have l3 : (tx o ++ tx t).length ≤ 6 := by rw [List.length_append]; exact Nat.add_le_add (tz_al o ho).1 (tz_al t ht).1
  have e1 : binD .Add (.str (strL (tx o))) (.str (strL (tx t))) = some (.str (strL (tx o ++ tx t))) := by
    show mkS (strL _ ++ strL _) = _
    rw [strL_append, mkS_ok (Nat.le_trans l3 (by decide))]
  have e2 : binD .Add (.str (strL (tx o ++ tx t))) (.str (strL [97, 65, 98])) = some (.str (strL (sgOf o t))) := by
    show mkS (strL _ ++ strL _) = _
    rw [strL_append]
    exact mkS_ok (Nat.le_trans (sg_al ho ht).2 (by decide))
  rw [mapI1, mapI1, Option.bind_some, Option.bind_some, text_walk o ho, text_walk t ht]
  show (binD .Add (.str (strL (tx o))) (.str (strL (tx t)))).bind _ = _
  rw [e1]; exact e2
theorem cond12 (hd : 258 ≤ dp) : (ev (k3 13) 386 (d3 13).sc (mkP (uC a nb dr o t dp S sg ty R K (txD Tp) (prD Tp ty) (.list [.bool true, .bool true, .bool true]))) (wI (st3 13 12))).bind truth = some false := by
  show (boolG .Or (ev (k3 13) 385 (d3 13).sc (mkP (uC a nb dr o t dp S sg ty R K (txD Tp) (prD Tp ty) (.list [.bool true, .bool true, .bool true])))) [bG (wI (st3 13 12)) 0, bG (wI (st3 13 12)) 1]).bind truth = _
  refine or_cons (t := false) (u := false) ?_ fun _ => ?_
  · refine Eq.trans (b := (cmpD .NotEq (.int ((Tp.map fun a => D.str (strL (txs a))).length : Nat)) (.int ((Tp.map fun a => rowT ty (txs a) 0).length : Nat))).bind truth) (by kernel_rfl) ?_
    rw [List.length_map, List.length_map]; exact ne_same (eqI_refl 4 _)
  · rw [bool_last]
    refine Eq.trans (b := ((bind2 (some (.list [.bool true, .bool true, .bool true])) ((mapI [(mapI [some (.int (-dp)), some (.bool true)]).bind (f3 8)]).bind mkL) (binD .Add)).bind fun x => cmpD .NotEq x (.list [.bool true, .bool true, .bool true, .bool true])).bind truth) (by kernel_rfl) ?_
    rw [mapI2, Option.bind_some, judged_ok (-dp) true (decide_eq_true (by omega)) (decide_eq_false (by omega)) (by rw [beq_eq_false_iff_ne]; omega)]
    rfl
theorem strange_val (hal : ∀ c ∈ ty, c ∈ AL) (hl : ty.length ≤ 3) : (mapI [some (.str (strL [63, 63, 63, 63])), some (.str (strL ty)), some (.int (2 + N.fmod 7))]).bind (f3 1) = some (.int (if ty = [] then 8 else min 8 (3 + N.fmod 7))) := by
  obtain ⟨v, hv, ev7⟩ := fmod_is N 7 (by decide)
  have ev7 : N.fmod 7 = (v : Int) := ev7
  rw [mapI3, Option.bind_some, lev_walk [63, 63, 63, 63] ty _ (by decide) (Nat.le_trans hl (by decide)), ev7, strange_ok hal hl v hv]
theorem wide_val (hl : ty.length ≤ 3) (m : Int) : (mapI [some (.str (strL ty)), bind2 (binD .Add (.str (strL (cutL ty none (some (ct : Int)) 1))) (.str (strL [63, 63]))) (some (.str (strL (cutL ty (some (ct : Int)) none 1)))) (binD .Add), some (.int m)]).bind (f3 1) = some (.int 4) := by
  have l3 : (ty.take ct ++ [63, 63]).length ≤ 5 := by rw [List.length_append]; exact Nat.add_le_add (Nat.le_trans (takeLe _ _) hl) (Nat.le_refl 2)
  have l4 : ((ty.take ct ++ [63, 63]) ++ ty.drop ct).length ≤ 8 := by rw [List.length_append]; exact Nat.add_le_add l3 (Nat.le_trans (dropLe _ _) hl)
  have e1 : binD .Add (.str (strL (ty.take ct))) (.str (strL [63, 63])) = some (.str (strL (ty.take ct ++ [63, 63]))) := by
    show mkS (strL _ ++ strL _) = _
    rw [strL_append, mkS_ok (Nat.le_trans l3 (by decide))]
  have e2 : binD .Add (.str (strL (ty.take ct ++ [63, 63]))) (.str (strL (ty.drop ct))) = some (.str (strL ((ty.take ct ++ [63, 63]) ++ ty.drop ct))) := by
    show mkS (strL _ ++ strL _) = _
    rw [strL_append, mkS_ok (Nat.le_trans l4 (by decide))]
  have e3 : bind2 (some (D.str (strL (ty.take ct ++ [63, 63])))) (some (.str (strL (ty.drop ct)))) (binD .Add) = binD .Add (.str (strL (ty.take ct ++ [63, 63]))) (.str (strL (ty.drop ct))) := rfl
  rw [cut_upto, cut_from, e1, e3, e2, mapI3, Option.bind_some, lev_walk ty _ _ (Nat.le_trans hl (by decide)) (Nat.le_trans l4 (by decide)), wide_ok]
theorem cond17 {T P : D} : (ev (k3 13) 381 (d3 13).sc (mkP (uD a nb dr o t dp S sg ty R K T P H N ct (if ty = [] then 8 else min 8 (3 + N.fmod 7)))) (wI (st3 13 17))).bind truth = some false := by
  refine Eq.trans (b := (((mapI [ifO (some (strL ty == strL [])) (some (.int 8)) (some (.int (min 8 (3 + N.fmod 7)))), some (.int 4)]).bind mkL).bind fun y => cmpD .NotEq (.list (([if ty = [] then 8 else min 8 (3 + N.fmod 7), 4] : List Int).map .int)) y).bind truth) (by kernel_rfl) ?_
  rw [q_val, mapI2]
  exact ne_same (eq_ints 3 [if ty = [] then 8 else min 8 (3 + N.fmod 7), 4])
end
end Mine

end

section
open PySem PySem.W PyProof.Rows
set_option Elab.async false
namespace Mine

theorem law_rest3 {a nb dr : D} {o t dp N : Int} {G : Gr} {sg ty : List Nat} (hd : 258 ≤ dp) (ok : GOk G sg) (bd : Bd (TOk sg) (ge3 G .tp) 9 5) (hsl : sg.length ≤ 9) (hal : ∀ c ∈ ty, c ∈ AL) (lty : ty.length ≤ 3) (hsum : (mapI [some nb]).bind (callB (Str.ofString "sum")) = some (.int N)) : WP (exs (k3 13) 394 (d3 13).sc (stOf (uB a nb dr o t dp (sdD G dp) sg ty) []) ((d3 13).body.drop 6)) fun o _ => o.getD .none = .bool true := by
  have hne := ge_ne ok.gr
  have hpr := priced_walk ok lty hd (Nat.le_trans hsl (by decide))
  refine wp_set1 (n := 392) (Str.ofString "rows") (.list ((ge3 G .tp).map cD)) (uB a nb dr o t dp (sdD G dp) sg ty ++ [(Str.ofString "rows", .list ((ge3 G .tp).map cD))]) [] (by kernel_rfl) (by kernel_rfl) (rows_val ok hd) (by kernel_rfl) (by kernel_rfl) ?_
  generalize sdD G dp = S at hpr ⊢
  generalize ge3 G .tp = Tp at hne bd hpr ⊢
  have hn : Tp.length ≤ 100 := Nat.le_trans bd.cnt (by decide)
  have hT : ∀ x ∈ Tp, (∀ z ∈ x, z ∈ TZ) ∧ x.length ≤ 5 := fun x hx => ⟨fun z hz => (bd.all x hx z hz).1, bd.len x hx⟩
  refine wp_if0 (n := 390) false (by rw [all_nil]; exact cond7 fun x hx => (hT x hx).1) (fun q => by cases q) fun _ => ?_
  refine wp_set1 (n := 390) (Str.ofString "book") bkD (uB a nb dr o t dp S sg ty ++ [(Str.ofString "rows", .list (Tp.map cD)), (Str.ofString "book", bkD)]) [] (by kernel_rfl) (by kernel_rfl) book_val (by kernel_rfl) (by kernel_rfl) ?_
  refine wp_set1 (n := 389) (Str.ofString "texts") (txD Tp) (uB a nb dr o t dp S sg ty ++ [(Str.ofString "rows", .list (Tp.map cD)), (Str.ofString "book", bkD), (Str.ofString "texts", txD Tp)]) [] (by kernel_rfl) (by kernel_rfl) (texts_val hT hn) (by kernel_rfl) (by kernel_rfl) ?_
  generalize D.list (Tp.map cD) = R
  generalize bkD = K
  refine wp_set1 (n := 388) (Str.ofString "prices") (prD Tp ty) (uB a nb dr o t dp S sg ty ++ [(Str.ofString "rows", R), (Str.ofString "book", K), (Str.ofString "texts", txD Tp), (Str.ofString "prices", prD Tp ty)]) [] (by kernel_rfl) (by kernel_rfl) ?_ (by kernel_rfl) (by kernel_rfl) ?_
  · refine Eq.trans (b := (mapI [some S, some (.int dp), some (.str (strL ty)), some (.str (strL sg))]).bind (f3 12)) (by kernel_rfl) ?_
    rw [mapI4, Option.bind_some, hpr]; rfl
  refine wp_set1 (n := 387) (Str.ofString "heads") (.list [.bool true, .bool true, .bool true]) (uC a nb dr o t dp S sg ty R K (txD Tp) (prD Tp ty) (.list [.bool true, .bool true, .bool true])) [] (by kernel_rfl) (by kernel_rfl) (heads_val hd) (by kernel_rfl) (by kernel_rfl) ?_
  refine wp_if0 (n := 385) false (by rw [all_nil]; exact cond12 hd) (fun q => by cases q) fun _ => ?_
  have hA : ∀ x ∈ Tp, (∀ c ∈ txs x, c ∈ AL) ∧ (txs x).length ≤ 40 := fun x hx => by
    obtain ⟨h1, h2⟩ := txs_al (hT x hx).1
    exact ⟨h1, Nat.le_trans h2 (Nat.le_trans (Nat.mul_le_mul_left 3 (hT x hx).2) (by decide))⟩
  generalize D.list [.bool true, .bool true, .bool true] = H
  have tail := fun (q : Int) (ct : Nat) => law_tail (a := a) (nb := nb) (dr := dr) (S := S) (R := R) (K := K) (H := H) (o := o) (t := t) (dp := dp) (N := N) (q := q) (sg := sg) (ty := ty) (Tp := Tp) (ct := ct) hne hn hA hal lty
  generalize txD Tp = T at tail ⊢
  generalize prD Tp ty = P at tail ⊢
  refine wp_set1 (n := 385) (Str.ofString "total") (.int N) (uC a nb dr o t dp S sg ty R K T P H ++ [(Str.ofString "total", .int N)]) [] (by kernel_rfl) (by kernel_rfl) (Eq.trans (b := (mapI [some nb]).bind (callB (Str.ofString "sum"))) (by kernel_rfl) hsum) (by kernel_rfl) (by kernel_rfl) ?_
  obtain ⟨ct, hct, ec⟩ := fmod_is (N + 2) (ty.length + 1) (Nat.succ_pos _)
  refine wp_set1 (n := 384) (Str.ofString "cut") (.int (ct : Int)) (uC a nb dr o t dp S sg ty R K T P H ++ [(Str.ofString "total", .int N), (Str.ofString "cut", .int (ct : Int))]) [] (by kernel_rfl) (by kernel_rfl) ?_ (by kernel_rfl) (by kernel_rfl) ?_
  · refine Eq.trans (b := binD .Mod (.int (N + 2)) (.int ((ty.length + 1 : Nat) : Int))) (by kernel_rfl) ?_
    rw [mod_ok (by omega), ec]
  refine wp_set1 (n := 383) (Str.ofString "strange") (.int (if ty = [] then 8 else min 8 (3 + N.fmod 7))) (uC a nb dr o t dp S sg ty R K T P H ++ [(Str.ofString "total", .int N), (Str.ofString "cut", .int (ct : Int)), (Str.ofString "strange", .int (if ty = [] then 8 else min 8 (3 + N.fmod 7)))]) [] (by kernel_rfl) (by kernel_rfl) ?_ (by kernel_rfl) (by kernel_rfl) ?_
  · exact Eq.trans (b := (mapI [some (.str (strL [63, 63, 63, 63])), some (.str (strL ty)), some (.int (2 + N.fmod 7))]).bind (f3 1)) (by kernel_rfl) (strange_val hal lty)
  refine wp_set1 (n := 382) (Str.ofString "widened") (.int 4) (uD a nb dr o t dp S sg ty R K T P H N ct (if ty = [] then 8 else min 8 (3 + N.fmod 7))) [] (by kernel_rfl) (by kernel_rfl) ?_ (by kernel_rfl) (by kernel_rfl) ?_
  · exact Eq.trans (b := (mapI [some (.str (strL ty)), bind2 (binD .Add (.str (strL (cutL ty none (some (ct : Int)) 1))) (.str (strL [63, 63]))) (some (.str (strL (cutL ty (some (ct : Int)) none 1)))) (binD .Add), some (.int (N.fmod 4 - 1))]).bind (f3 1)) (by kernel_rfl) (wide_val lty _)
  refine wp_if0 (n := 380) false (by rw [all_nil]; exact cond17) (fun q => by cases q) fun _ => ?_
  exact tail _ ct (Nat.lt_succ_iff.mp hct)
theorem law_rest2 {a nb : D} {o t dp N e0 e1 e2 e3 e4 : Int} (ho : o ∈ TZ) (ht : t ∈ TZ) (hd : 258 ≤ dp) (hsum : (mapI [some nb]).bind (callB (Str.ofString "sum")) = some (.int N)) : WP (exs (k3 13) 397 (d3 13).sc (stOf (uA a nb (drD e0 e1 e2 e3 e4) o t dp) []) ((d3 13).body.drop 3)) fun o _ => o.getD .none = .bool true := by
  have c := fun i => cell_tok ho ht i
  have hsg := sg_al ho ht
  have ok : GOk (grD o t e1 e2 e3) (sgOf o t) := gr_ok (c _) (c _) (c _) (c _) (c _) (c _) (c _) (c _) (c _)
  have bd : Bd (TOk (sgOf o t)) (ge3 (grD o t e1 e2 e3) .tp) 9 5 := bd_top (c _) (c _) (c _) (c _) (c _) (c _) (c _) (c _) (c _)
  have hty := ty_mem (sgOf o t) e4
  have lty := ty_len (sgOf o t) e4
  refine wp_set1 (n := 395) (Str.ofString "sides") (sdD (grD o t e1 e2 e3) dp) (uA a nb (drD e0 e1 e2 e3 e4) o t dp ++ [(Str.ofString "sides", sdD (grD o t e1 e2 e3) dp)]) [] (by kernel_rfl) (by kernel_rfl) ?_ (by kernel_rfl) (by kernel_rfl) ?_
  · refine Eq.trans (b := (mapI [some (drD e0 e1 e2 e3 e4), some (.int o), some (.int t), some (.int dp)]).bind (f3 6)) (by kernel_rfl) ?_
    rw [mapI4, Option.bind_some, sides_walk]
  refine wp_set1 (n := 394) (Str.ofString "signs") (.str (strL (sgOf o t))) (uA a nb (drD e0 e1 e2 e3 e4) o t dp ++ [(Str.ofString "sides", sdD (grD o t e1 e2 e3) dp), (Str.ofString "signs", .str (strL (sgOf o t)))]) [] (by kernel_rfl) (by kernel_rfl) (signs_val ho ht) (by kernel_rfl) (by kernel_rfl) ?_
  refine wp_set1 (n := 393) (Str.ofString "typed") (.str (strL (tyOf (sgOf o t) e4))) (uB a nb (drD e0 e1 e2 e3 e4) o t dp (sdD (grD o t e1 e2 e3) dp) (sgOf o t) (tyOf (sgOf o t) e4)) [] (by kernel_rfl) (by kernel_rfl) (typed_val _ _ _ _ _) (by kernel_rfl) (by kernel_rfl) ?_
  exact law_rest3 hd ok bd hsg.2 (fun c h => hsg.1 c (hty c h)) lty hsum
theorem law_rest1 {a nb : D} {N e0 e1 e2 e3 e4 : Int} (hd : 258 ≤ 258 + N) (hsum : (mapI [some nb]).bind (callB (Str.ofString "sum")) = some (.int N)) : WP (exs (k3 13) 398 (d3 13).sc (stOf ([(Str.ofString "script", a), (Str.ofString "numbers", nb), (Str.ofString "draws", drD e0 e1 e2 e3 e4)]) []) ((d3 13).body.drop 2)) fun o _ => o.getD .none = .bool true := by
  obtain ⟨i, hi, ei⟩ := fmod_is e0 48 (by decide)
  have ei : e0.fmod 48 = (i : Int) := ei
  obtain ⟨j, hj, ej⟩ := fmod_is (e0.fdiv 48) 25 (by decide)
  have ej : (e0.fdiv 48).fmod 25 = (j : Int) := ej
  have ho := tz_op i hi
  have ht := tz_op j (Nat.lt_of_lt_of_le hj (by decide))
  refine wp_tup3 (n := 396) (Str.ofString "one") (Str.ofString "two") (Str.ofString "deep") (.int (7 + (i : Int))) (.int (7 + (j : Int))) (.int (258 + N)) (uA a nb (drD e0 e1 e2 e3 e4) (7 + (i : Int)) (7 + (j : Int)) (258 + N)) [] (by kernel_rfl) (by decide +kernel) (by kernel_rfl) (by kernel_rfl) ?_ (by kernel_rfl) (by kernel_rfl) (by kernel_rfl) ?_
  · refine Eq.trans (b := (mapI [some (.int (7 + e0.fmod 48)), some (.int (7 + (e0.fdiv 48).fmod 25)), bind2 (some (.int 258)) ((mapI [some nb]).bind (callB (Str.ofString "sum"))) (binD .Add)]).bind mkT) (by kernel_rfl) ?_
    rw [hsum, ei, ej]; rfl
  exact law_rest2 ho ht hd hsum
theorem law3_true (is : List Int) (hl : is.length ≤ 63) : law3 hint3 is = some (.bool true) := by
  show f3 13 [.list (is.map .int)] = _
  refine call_wp [(Str.ofString "script", .list (is.map .int))] (by kernel_rfl) ?_
  refine wp_set1 (n := 398) (Str.ofString "numbers") (.list ((nums is).map .int)) [(Str.ofString "script", .list (is.map .int)), (Str.ofString "numbers", .list ((nums is).map .int))] [] (by kernel_rfl) (by kernel_rfl) ?_ (by kernel_rfl) (by kernel_rfl) ?_
  · unfold nums
    rw [List.map_map]
    refine ev_compE (xs := is.take 60) D.int _ (by kernel_rfl) ?_ (by kernel_rfl) (fun x _ => by kernel_rfl) (Nat.le_trans (takeLe _ _) (Nat.le_trans hl (by decide)))
    rw [← cut_upto, ← cutL_map]; kernel_rfl
  refine wp_set1 (n := 397) (Str.ofString "draws") (drD (dw (nums is) (0, 380)) (dw (nums is) (1, 8)) (dw (nums is) (2, 1062)) (dw (nums is) (3, 103)) (dw (nums is) (4, 203))) [(Str.ofString "script", .list (is.map .int)), (Str.ofString "numbers", .list ((nums is).map .int)), (Str.ofString "draws", drD (dw (nums is) (0, 380)) (dw (nums is) (1, 8)) (dw (nums is) (2, 1062)) (dw (nums is) (3, 103)) (dw (nums is) (4, 203)))] [] (by kernel_rfl) (by kernel_rfl) (draws_val _ _) (by kernel_rfl) (by kernel_rfl) ?_
  have hd : (258 : Int) ≤ 258 + (nums is).sum := Int.le_add_of_nonneg_right (nums_pos is)
  have hsum : (mapI [some (.list ((nums is).map .int))]).bind (callB (Str.ofString "sum")) = some (.int (nums is).sum) := by rw [mapI1, Option.bind_some, sum_ok]
  exact law_rest1 hd hsum
end Mine

end

theorem PySem.Challenge.cw_pk0085_03_holds : PySem.Challenge.rw_pk0085_03.Holds :=
  Mine.top3 Mine.hint3 Mine.law3_true
