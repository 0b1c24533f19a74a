import PyProof.Rows.All
import Wide.All
import OpenK.AllK
import Wide.FinOn
import PyProof.AttrMissHeap
import Lean
import PySem.Challenge.RW_id0004_03
set_option linter.all false
set_option maxRecDepth 100000
namespace Mine
open PySem

inductive PV where
  | none
  | bool (b : Bool)
  | int (i : Int)
  | str (l : List Nat)
  | tup (l : List PV)
  | list (l : List PV)
  | dict (ks vs : List PV)
  deriving Inhabited

noncomputable def immN : Nat → PV → Bool
  | 0, _ => false
  | n + 1, v => match v with
    | .tup l => l.all (immN n)
    | .list _ => false
    | .dict _ _ => false
    | _ => true
noncomputable def PV.imm (v : PV) : Bool := immN 6 v
noncomputable def PV.imms (l : List PV) : Bool := l.all PV.imm

noncomputable def isAtom : PV → Bool
  | .int _ => true
  | .str _ => true
  | _ => false
noncomputable def keyP : PV → Bool
  | .int _ => true
  | .str _ => true
  | .tup l => l.all isAtom
  | _ => false

noncomputable def both : Option Bool → Option Bool → Option Bool
  | some a, o => (match o with
    | some b => some (a && b)
    | Option.none => Option.none)
  | Option.none, _ => Option.none
noncomputable def eqsL (f : PV → PV → Option Bool) : List PV → List PV → Option Bool
  | [], m => (match m with
    | [] => some true
    | _ :: _ => some false)
  | x :: r, m => (match m with
    | [] => some false
    | y :: t => both (f x y) (eqsL f r t))
noncomputable def eqNone : PV → Option Bool
  | .none => some true
  | .str _ => some false
  | .int _ => some false
  | _ => Option.none
noncomputable def eqBool (a : Bool) : PV → Option Bool
  | .bool b => some (a == b)
  | _ => Option.none
noncomputable def eqInt (a : Int) : PV → Option Bool
  | .int b => some (a == b)
  | .none => some false
  | _ => Option.none
noncomputable def eqStr (a : List Nat) : PV → Option Bool
  | .str b => some (a == b)
  | .none => some false
  | _ => Option.none
noncomputable def eqTup (f : PV → PV → Option Bool) (a : List PV) : PV → Option Bool
  | .tup b => eqsL f a b
  | _ => Option.none
noncomputable def eqList (f : PV → PV → Option Bool) (a : List PV) : PV → Option Bool
  | .list b => if a.length == b.length then eqsL f a b else some false
  | _ => Option.none
noncomputable def eqN : Nat → PV → PV → Option Bool
  | 0, _, _ => Option.none
  | n + 1, x, y => match x with
    | .none => eqNone y
    | .bool a => eqBool a y
    | .int a => eqInt a y
    | .str a => eqStr a y
    | .tup a => eqTup (eqN n) a y
    | .list a => eqList (eqN n) a y
    | .dict _ _ => Option.none
noncomputable def PV.eq (x y : PV) : Option Bool := eqN 6 x y

noncomputable def ltStep (o l r : Option Bool) : Option Bool := match o with
  | some c => bif c then r else l
  | Option.none => Option.none
noncomputable def ltsL (e l : PV → PV → Option Bool) : List PV → List PV → Option Bool
  | [], m => (match m with
    | [] => some false
    | _ :: _ => some true)
  | x :: r, m => (match m with
    | [] => some false
    | y :: t => ltStep (e x y) (l x y) (ltsL e l r t))
noncomputable def ltInt (a : Int) : PV → Option Bool
  | .int b => some (decide (a < b))
  | _ => Option.none
noncomputable def ltTup (f : List PV → List PV → Option Bool) (a : List PV) : PV → Option Bool
  | .tup b => f a b
  | _ => Option.none
noncomputable def ltN : Nat → PV → PV → Option Bool
  | 0, _, _ => Option.none
  | n + 1, x, y => match x with
    | .int a => ltInt a y
    | .tup a => ltTup (ltsL (eqN n) (ltN n)) a y
    | _ => Option.none
noncomputable def PV.lt (x y : PV) : Option Bool := ltN 6 x y

noncomputable def isInL (x : PV) : List PV → Option Bool
  | [] => some false
  | y :: r => match PV.eq y x, isInL x r with
    | some a, some b => some (a || b)
    | _, _ => Option.none

noncomputable def countL (x : PV) : List PV → Option Nat
  | [] => some 0
  | y :: r => match PV.eq y x, countL x r with
    | some b, some k => some (if b then k + 1 else k)
    | _, _ => Option.none

noncomputable def getD2 (k : PV) : List PV → List PV → Option (Option PV)
  | [], _ => some Option.none
  | y :: r, vs => match PV.eq y k with
    | some true => vs.head?.map some
    | some false => getD2 k r vs.tail
    | Option.none => Option.none

noncomputable def putD2 (k v : PV) : List PV → List PV → Option (List PV × List PV)
  | [], _ => some ([k], [v])
  | y :: r, vs => match PV.eq y k with
    | some true => some (y :: r, v :: vs.tail)
    | some false => (putD2 k v r vs.tail).map fun p => (y :: p.1, vs.head?.toList ++ p.2)
    | Option.none => Option.none

inductive Mode where
  | P | B | O | M
  deriving DecidableEq, Inhabited

noncomputable def ownM : Mode → Bool
  | .O => true
  | .M => true
  | _ => false
noncomputable abbrev Vars := List (Str × Mode × PV)

noncomputable def strEq (a b : Str) : Bool := a.cps.toList == b.cps.toList

noncomputable def look (x : Str) : Vars → Option (Mode × PV)
  | [] => Option.none
  | (y, s) :: r => match strEq y x with
    | true => some s
    | false => look x r
noncomputable def setV (x : Str) (s : Mode × PV) : Vars → Vars
  | [] => [(x, s)]
  | (y, t) :: r => match strEq y x with
    | true => (y, s) :: r
    | false => (y, t) :: setV x s r
noncomputable def kindIn (x : Str) : List (Str × NameKind) → Option NameKind
  | [] => Option.none
  | (y, k) :: r => match strEq y x with
    | true => some k
    | false => kindIn x r
noncomputable def borrow : Vars → Vars
  | [] => []
  | (x, _, v) :: r => (x, .B, v) :: borrow r
noncomputable def within (names : List (Str × NameKind)) : Vars → Vars
  | [] => []
  | (x, m, v) :: r => match kindIn x names with
    | some .free => (x, if ownM m then .B else m, v) :: within names r
    | _ => within names r

noncomputable def smallI (a : Int) : Bool := decide (-(2 ^ 62) < a) && decide (a < 2 ^ 62)

noncomputable def szOk (n : Nat) : Bool := decide (n ≤ 1000000)
noncomputable def intP : PV → Option Int
  | .int i => some i
  | _ => Option.none
noncomputable def tupL : PV → Option (List PV)
  | .tup l => some l
  | _ => Option.none
noncomputable def listL : PV → Option (List PV)
  | .list l => some l
  | _ => Option.none
noncomputable def isNoneP : PV → Bool
  | .none => true
  | _ => false
noncomputable def intPs (a b : PV) (f : Int → Int → Option PV) : Option PV := (intP a).bind fun i => (intP b).bind fun j => f i j
noncomputable def addP (a b : PV) : Option PV := match a with
  | .int i => (intP b).bind fun j => some (.int (i + j))
  | .tup l => (tupL b).bind fun m => if szOk (l.length + m.length) then some (.tup (l ++ m)) else Option.none
  | .list l => (listL b).bind fun m => if szOk (l.length + m.length) then some (.list (l ++ m)) else Option.none
  | _ => Option.none
noncomputable def mulP (a b : PV) : Option PV := match a with
  | .int i => (intP b).bind fun j => if smallI i then some (.int (i * j)) else Option.none
  | _ => Option.none
noncomputable def evalBin (op : Operator) (a b : PV) : Option PV := match op with
  | .Add => addP a b
  | .Sub => intPs a b fun i j => some (.int (i - j))
  | .Mult => mulP a b
  | .FloorDiv => intPs a b fun i j => if smallI i && decide (0 < j) && smallI j then some (.int (i / j)) else Option.none
  | .Mod => intPs a b fun i j => if decide (0 < j) then some (.int (i % j)) else Option.none
  | _ => Option.none

noncomputable def cmpI (a b : PV) (f : Int → Int → Bool) : Option Bool := (intP a).bind fun i => (intP b).bind fun j => some (f i j)
noncomputable def inP (x b : PV) : Option Bool := match b with
  | .list l => isInL x l
  | .tup l => isInL x l
  | .dict ks vs => if keyP x then (getD2 x ks vs).bind fun o => some o.isSome else Option.none
  | _ => Option.none
noncomputable def notInP (x b : PV) : Option Bool := match b with
  | .list l => (isInL x l).bind fun c => some (!c)
  | .tup l => (isInL x l).bind fun c => some (!c)
  | _ => Option.none
noncomputable def evalCmp (op : CmpOp) (a b : PV) : Option Bool := match op with
  | .Eq => PV.eq a b
  | .NotEq => (PV.eq a b).bind fun c => some (!c)
  | .Lt => PV.lt a b
  | .LtE => cmpI a b fun i j => decide (i ≤ j)
  | .Gt => cmpI a b fun i j => decide (j < i)
  | .GtE => cmpI a b fun i j => decide (j ≤ i)
  | .Is => if isNoneP b then some (isNoneP a) else Option.none
  | .IsNot => if isNoneP b then some (!(isNoneP a)) else Option.none
  | .In => inP a b
  | .NotIn => notInP a b

noncomputable def nth {α : Type} (l : List α) (i : Int) : Option α := (seqIndex? i l.length).bind (l[·]?)

noncomputable def evalSub (a k : PV) : Option PV := match a with
  | .list l => (intP k).bind fun i => if smallI i then nth l i else Option.none
  | .tup l => (intP k).bind fun i => if smallI i then nth l i else Option.none
  | .dict ks vs => if keyP k then (getD2 k ks vs).bind id else Option.none
  | _ => Option.none

noncomputable def evalRev : PV → Option PV
  | .list l => if szOk l.length then some (.list l.reverse) else Option.none
  | _ => Option.none

noncomputable def okItems : PV → Bool
  | .list l => PV.imms l
  | .tup l => PV.imms l
  | .dict ks vs => PV.imms ks && PV.imms vs
  | _ => true

noncomputable def rangeUp (a b : Int) : List PV := (List.range (b - a).toNat).map fun (k : Nat) => .int (a + k)
noncomputable def rangeDown (a b : Int) : List PV := (List.range (a - b).toNat).map fun (k : Nat) => .int (a - k)
noncomputable def range1 (b : Int) : Option (List PV) := if smallI b then some (rangeUp 0 b) else Option.none
noncomputable def range2 (a b : Int) : Option (List PV) := if smallI a && smallI b then some (rangeUp a b) else Option.none
noncomputable def range3 (a b c : Int) : Option (List PV) := if smallI a && smallI b && c == -1 then some (rangeDown a b) else Option.none
noncomputable def rangeZ (a b : Int) (z : PV) : List PV → Option (List PV)
  | [] => (intP z).bind fun c => range3 a b c
  | _ :: _ => Option.none
noncomputable def rangeY (a : Int) (y : PV) : List PV → Option (List PV)
  | [] => (intP y).bind fun b => range2 a b
  | z :: q => (intP y).bind fun b => rangeZ a b z q
noncomputable def evalRange : List PV → Option (List PV)
  | [] => Option.none
  | x :: q => (intP x).bind fun a => match q with
    | [] => range1 a
    | y :: q => rangeY a y q

noncomputable def sumL : Int → List PV → Option Int
  | a, [] => some a
  | a, x :: r => (intP x).bind fun b => sumL (a + b) r
structure Fn where
  params : List Str
  dflts : List (Str × PV)
  body : List Stmt
  scope : Scope
  muts : Bool
  const : Option PV

noncomputable abbrev Tab := List (Str × Fn)
noncomputable def tabLook (x : Str) : Tab → Option Fn
  | [] => Option.none
  | (y, f) :: r => if strEq y x then some f else tabLook x r

noncomputable def slotOf (p : Bool) (v : PV) : Mode × PV := (if p || v.imm then .P else .B, v)

noncomputable def dropD (p : Str) (ds : List (Str × PV)) : List (Str × PV) := match ds with
  | [] => []
  | d :: q => if strEq p d.1 then q else d :: q
noncomputable def bindArgsV : List Str → List (Mode × PV) → List (Str × PV) → Option Vars
  | [], as, ds => (match as with
    | [] => some (ds.map fun d => (d.1, .P, d.2))
    | _ :: _ => Option.none)
  | p :: ps, as, ds => match as with
    | a :: as => (bindArgsV ps as (dropD p ds)).map ((p, a) :: ·)
    | [] => match ds with
      | [] => Option.none
      | d :: ds => if strEq p d.1 then (bindArgsV ps [] ds).map ((p, .P, d.2) :: ·) else Option.none

noncomputable def ownK (sc : Scope) (x : Str) : Bool := match kindIn x sc.names with
  | some .local => true
  | some .cell => true
  | _ => false
mutual
noncomputable def bindT : Nat → Scope → Expr → PV → Vars → Option Vars
  | 0, _, _, _, _ => Option.none
  | n + 1, sc, t, v, vars => match t with
    | .Name x _ => bif ownK sc x then some (setV x (.P, v) vars) else Option.none
    | .Tuple es _ _ => (tupL v).bind fun l => bindTs n sc es l vars
    | _ => Option.none
noncomputable def bindTs : Nat → Scope → List Expr → List PV → Vars → Option Vars
  | 0, _, _, _, _ => Option.none
  | n + 1, sc, es, l, vars => match es with
    | [] => (match l with
      | [] => some vars
      | _ :: _ => Option.none)
    | t :: es => (match l with
      | [] => Option.none
      | v :: l => (bindT n sc t v vars).bind (bindTs n sc es l))
end

inductive Res where
  | next (vars : Vars)
  | ret (v : PV)

noncomputable def retOf : Res → PV
  | .next _ => .none
  | .ret v => v

inductive BI where
  | len | abs | min | max | sum | sorted | list | tuple | dict | range | enumerate | isinstance
  deriving DecidableEq

noncomputable def biTab : List (Str × BI) := [("len", .len), ("abs", .abs), ("min", .min), ("max", .max), ("sum", .sum), ("sorted", .sorted), ("list", .list), ("tuple", .tuple), ("dict", .dict), ("range", .range), ("enumerate", .enumerate), ("isinstance", .isinstance)]
noncomputable def biLook (x : Str) : List (Str × BI) → Option BI
  | [] => Option.none
  | e :: r => bif strEq x e.1 then some e.2 else biLook x r
noncomputable def biOf (x : Str) : Option BI := biLook x biTab

noncomputable def pairsOf : List PV → List PV → List PV
  | k :: ks, v :: vs => .tup [k, v] :: pairsOf ks vs
  | _, _ => []

noncomputable def lenP : PV → Option PV
  | .list l => if szOk l.length then some (.int l.length) else Option.none
  | .tup l => if szOk l.length then some (.int l.length) else Option.none
  | .dict ks _ => if szOk ks.length then some (.int ks.length) else Option.none
  | _ => Option.none

noncomputable def isListE : Expr → Bool
  | .List _ _ => true
  | _ => false
noncomputable def isMult : Operator → Bool
  | .Mult => true
  | _ => false
noncomputable def isDisplay : Expr → Bool
  | .List _ _ => true
  | .Dict _ _ _ => true
  | .BinOp l op _ _ => isListE l && isMult op
  | _ => false

noncomputable def isG (sc : Scope) (x : Str) : Bool := match kindIn x sc.names with
  | some .globalImplicit => true
  | _ => false

noncomputable def setAll : List Str → List (Mode × PV) → Vars → Option Vars
  | [], ss, vars => (match ss with
    | [] => some vars
    | _ :: _ => Option.none)
  | x :: ts, ss, vars => (match ss with
    | [] => Option.none
    | s :: ss => setAll ts ss (setV x s vars))
set_option genSizeOf false in
set_option genInjectivity false in
inductive EV where
  | name (x : Str) (p : Pos)
  | call (f : Expr) (args : List Expr) (kw : List Keyword) (p : Pos)
  | attr (o : Expr) (n : Str) (p : Pos)
  | sub (v i : Expr) (p : Pos)
  | slice (lo hi st : Option Expr) (p : Pos)
  | tup (es : List Expr) (k : Nat) (p : Pos)
  | other
noncomputable def view (e : Expr) : EV := match e with
  | .Name x p => .name x p
  | .Call f args kw p => .call f args kw p
  | .Attribute o n p => .attr o n p
  | .Subscript v i p => .sub v i p
  | .Slice lo hi st p => .slice lo hi st p
  | .Tuple es k p => .tup es k p
  | _ => .other
noncomputable def EV.Is (v : EV) (e : Expr) : Prop := match v with
  | .name x p => e = .Name x p
  | .call f args kw p => e = .Call f args kw p
  | .attr o n p => e = .Attribute o n p
  | .sub v i p => e = .Subscript v i p
  | .slice lo hi st p => e = .Slice lo hi st p
  | .tup es k p => e = .Tuple es k p
  | .other => True
theorem view_is (e : Expr) : (view e).Is e := by cases e <;> first | exact rfl | exact trivial
noncomputable def nameV : EV → Option (Str × Pos)
  | .name x p => some (x, p)
  | _ => Option.none
noncomputable def nameOf2 (e : Expr) : Option (Str × Pos) := nameV (view e)
noncomputable def fstO : Option (Str × Pos) → Option Str
  | some q => some q.1
  | Option.none => Option.none
noncomputable def nameOf (e : Expr) : Option Str := fstO (nameOf2 e)
noncomputable def callV : EV → Option (Expr × List Expr × List Keyword × Pos)
  | .call f args kw p => some (f, args, kw, p)
  | _ => Option.none
noncomputable def callOf (e : Expr) : Option (Expr × List Expr × List Keyword × Pos) := callV (view e)
noncomputable def subV : EV → Option (Expr × Expr × Pos)
  | .sub v i p => some (v, i, p)
  | _ => Option.none
noncomputable def subOf (e : Expr) : Option (Expr × Expr × Pos) := subV (view e)
noncomputable def isLoc (k : Option NameKind) : Bool := decide (k = some .local)
noncomputable def rowNames (sc : Scope) (line : Nat) : List Expr → Option (List Str)
  | [] => some []
  | t :: r => (nameOf2 t).bind fun x => bif isLoc (kindIn x.1 sc.names) && x.2.line == line then (rowNames sc line r).bind fun q => some (x.1 :: q) else Option.none
noncomputable def noneIn (x : Str) : List Str → Bool
  | [] => true
  | y :: r => !(strEq x y) && noneIn x r
noncomputable def allApart : List Str → Bool
  | [] => true
  | x :: r => noneIn x r && allApart r
noncomputable def tsNames : List Expr → Option (List Str)
  | [] => some []
  | t :: r => (nameOf t).bind fun x => (tsNames r).bind fun q => some (x :: q)
noncomputable def isCellK (sc : Scope) (x : Str) : Bool := match kindIn x sc.names with
  | some .cell => true
  | _ => false
noncomputable def swapNames (sc : Scope) (ts es : List Expr) : Option (Bool × List Str) :=
  if !(es.length == ts.length && decide (ts.length ≤ 5)) then Option.none else
  match tsNames ts with
  | some l => if l.any (isCellK sc) then (if l.all (ownK sc) then some (false, l) else Option.none) else
    if (ts.length == 2 || ts.length == 3) && !(es.all (foldedForSure 8)) && !(es.all (constantsAlone 8)) then
      match rowNames sc ((ts.head?.map (·.pos.line)).getD 0) ts with
      | some l => if allApart l then some (true, l) else Option.none
      | Option.none => Option.none
    else Option.none
  | Option.none => Option.none
noncomputable def setBoth (sw : Bool × List Str) (ss : List (Mode × PV)) (vars : Vars) : Option Vars :=
  if sw.1 then setAll sw.2.reverse ss.reverse vars else setAll sw.2 ss vars
noncomputable def sliceV : EV → Option (Option Expr × Option Expr × Option Expr)
  | .slice lo hi st _ => some (lo, hi, st)
  | _ => Option.none
noncomputable def sliceOf (e : Expr) : Option (Option Expr × Option Expr × Option Expr) := sliceV (view e)
noncomputable def attrV : EV → Option (Expr × Str × Pos)
  | .attr o name p => some (o, name, p)
  | _ => Option.none
noncomputable def attrOf (e : Expr) : Option (Expr × Str × Pos) := attrV (view e)
noncomputable def tupV : EV → Option (List Expr)
  | .tup es _ _ => some es
  | _ => Option.none
noncomputable def tupOf (e : Expr) : Option (List Expr) := tupV (view e)
set_option genSizeOf false in
set_option genInjectivity false in
inductive IterK where
  | call (f : Str) (q : Pos) (args : List Expr) (p : Pos)
  | view (d : Str) (q : Pos) (name : Str) (apos pos : Pos)
  | other
noncomputable def iterView (o : Option (Str × Pos)) (name : Str) (apos p : Pos) : IterK := match o with
  | some d => .view d.1 d.2 name apos p
  | Option.none => .other
noncomputable def iterAttr (q : Option (Expr × Str × Pos)) (p : Pos) : IterK := match q with
  | some q => iterView (nameOf2 q.1) q.2.1 q.2.2 p
  | Option.none => .other
noncomputable def iterCall (n : Option (Str × Pos)) (f : Expr) (args : List Expr) (p : Pos) : IterK := match n with
  | some g => .call g.1 g.2 args p
  | Option.none => match args with
    | [] => iterAttr (attrOf f) p
    | _ :: _ => .other
noncomputable def iterKw (kw : List Keyword) (f : Expr) (args : List Expr) (p : Pos) : IterK := match kw with
  | [] => iterCall (nameOf2 f) f args p
  | _ :: _ => .other
noncomputable def iterC (o : Option (Expr × List Expr × List Keyword × Pos)) : IterK := match o with
  | some q => iterKw q.2.2.1 q.1 q.2.1 q.2.2.2
  | Option.none => .other
noncomputable def iterKind (e : Expr) : IterK := iterC (callOf e)
noncomputable def walkedK : IterK → Option Str
  | .view d _ _ _ _ => some d
  | _ => Option.none
noncomputable def walked (e : Expr) : Option Str := match nameOf e with
  | some x => some x
  | Option.none => walkedK (iterKind e)
noncomputable def freeze (e : Expr) (vars : Vars) : Vars := match walked e with
  | some x => match look x vars with
    | some (.O, v) => setV x (.P, v) vars
    | _ => vars
  | Option.none => vars
noncomputable def dictL2 : PV → Option (List PV × List PV)
  | .dict ks vs => some (ks, vs)
  | _ => Option.none
noncomputable def ownV (s : Mode × PV) : Option PV := match s.1 with
  | .O => some s.2
  | _ => Option.none
noncomputable def ownedName (e : Expr) (vars : Vars) : Option PV := (nameOf e).bind fun x => (look x vars).bind ownV
noncomputable def storeC (d : Str) (k v : PV) (vars : Vars) : PV → Option Vars
  | .dict ks vs => bif keyP k && v.imm && szOk ks.length then (putD2 k v ks vs).bind fun p => some (setV d (.O, .dict p.1 p.2) vars) else Option.none
  | _ => Option.none
noncomputable def evalAug (op : Operator) (a b : PV) : Option PV := match op with
  | .Add => (intP a).bind fun i => (intP b).bind fun j => some (.int (i + j))
  | _ => Option.none
noncomputable def augD (d : Str) (ks vs : List PV) (k : PV) (op : Operator) (j : Int) (vars : Vars) : Option Vars := bif keyP k && szOk ks.length then
    (getD2 k ks vs).bind fun o => o.bind fun u => (evalAug op u (.int j)).bind fun r => (putD2 k r ks vs).bind fun p => some (setV d (.O, .dict p.1 p.2) vars)
  else Option.none
noncomputable def storeP (d : Str) (k v : PV) (vars : Vars) : Option Vars := (look d vars).bind fun s => (ownV s).bind (storeC d k v vars)
noncomputable def augP (d : Str) (k : PV) (op : Operator) (v : PV) (vars : Vars) : Option Vars := (look d vars).bind fun s => (ownV s).bind fun u => (dictL2 u).bind fun p => (intP v).bind fun j => augD d p.1 p.2 k op j vars
noncomputable def appL (l : List PV) : List PV → Option (List PV)
  | [] => Option.none
  | v :: q => match q with
    | [] => bif v.imm && szOk l.length then some (l ++ [v]) else Option.none
    | _ :: _ => Option.none
noncomputable def insL (l : List PV) : List PV → Option (List PV)
  | [] => Option.none
  | k :: q => match q with
    | [] => Option.none
    | v :: q => match q with
      | [] => (intP k).bind fun i => bif v.imm && szOk l.length && decide (0 ≤ i) && decide (i ≤ l.length) then some (l.take i.toNat ++ v :: l.drop i.toNat) else Option.none
      | _ :: _ => Option.none
noncomputable def methL (m : Str) (as : List PV) (l : List PV) : Option (List PV) :=
  bif strEq m "append" then appL l as else bif strEq m "insert" then insL l as else Option.none
noncomputable def methP (d m : Str) (as : List PV) (vars : Vars) : Option Vars := (look d vars).bind fun s => (listL s.2).bind fun l => bif ownM s.1 then (methL m as l).bind fun l' => some (setV d (s.1, .list l') vars) else Option.none
noncomputable def lentV (s : Mode × PV) : Option PV := match s.1 with
  | .M => some s.2
  | _ => Option.none
noncomputable def nextV : Res → Option Vars
  | .next v => some v
  | .ret _ => Option.none
noncomputable def backP (d : Str) (params : List Str) (r : Res) (vars : Vars) : Option Vars := (nextV r).bind fun vars3 => params.head?.bind fun p => (look p vars3).bind fun s => (lentV s).bind fun v => some (setV d (.O, v) vars)

noncomputable def bi2 (b : BI) (x y : PV) : Option PV := match b with
  | .max => intPs x y fun a b => some (.int (if a < b then b else a))
  | .min => intPs x y fun a b => some (.int (if b < a then b else a))
  | _ => Option.none
noncomputable def isIntP : PV → Bool
  | .int _ => true
  | _ => false
noncomputable def headP : PV → PV
  | .tup l => l.headD .none
  | _ => .none
noncomputable def tupInt (x : PV) : Bool := isIntP (headP x)
noncomputable def askP (l : List PV) (i j : Nat) : Option Bool := (l[i]?).bind fun x => (l[j]?).bind fun y => PV.lt x y
noncomputable def krunO {α : Type} (lt : Nat → Nat → Option Bool) : PySem.W.KasT α → Option α
  | .ret a => some a
  | .ask i j k => (lt i j).bind fun b => krunO lt (k b)
noncomputable def kindOk (l : List PV) : Bool :=
  (l.all isIntP || l.all tupInt)
noncomputable def orderP (l : List PV) : Option (List Nat) := if l.length < 2 then some (List.range l.length) else
  if kindOk l then (krunO (askP l) (PySem.W.kas_sort l.length)).bind fun p => some p.toList else Option.none
noncomputable def sortP (l : List PV) : Option PV := if PV.imms l && decide (l.length < 64) then
    (orderP l).bind fun q => some (.list (q.map fun i => l.getD i .none)) else Option.none
noncomputable def sortV : PV → Option PV
  | .list l => sortP l
  | .tup l => sortP l
  | .dict ks _ => sortP ks
  | _ => Option.none
noncomputable def biV (b : BI) (a : Bool × PV) : Option PV := match b with
  | .len => lenP a.2
  | .sum => (listL a.2).bind fun l => (sumL 0 l).bind fun i => some (.int i)
  | .sorted => sortV a.2
  | .list => (tupL a.2).bind fun l => if (a.1 || PV.imms l) && szOk l.length then some (.list l) else Option.none
  | .tuple => (listL a.2).bind fun l => if (a.1 || PV.imms l) && szOk l.length then some (.tup l) else Option.none
  | _ => Option.none
noncomputable def biIt : BI → List PV → Option PV
  | .sum, l => (sumL 0 l).bind fun i => some (.int i)
  | .list, l => if szOk l.length then some (.list l) else Option.none
  | .tuple, l => if szOk l.length then some (.tup l) else Option.none
  | _, _ => Option.none
noncomputable def isiP : PV → Option PV
  | .int _ => some (.bool false)
  | _ => Option.none
noncomputable def countM (x : PV) : PV → Option PV
  | .tup l => (countL x l).bind fun k => some (.int k)
  | _ => Option.none
noncomputable def meth1 (name : Str) (o x : PV) : Option PV :=
  bif strEq name "count" then countM x o else
  Option.none
noncomputable def viewP (tup : Bool) (name : Str) : Bool × PV → Option (List PV)
  | (p, .dict ks vs) => if p || PV.imms vs then (if strEq name "items" then (if tup then some (pairsOf ks vs) else Option.none)
    else if strEq name "values" then some vs else Option.none) else Option.none
  | _ => Option.none
noncomputable def itemsP : Bool × PV → Option (List PV)
  | (p, .list l) => if p || PV.imms l then some l else Option.none
  | (p, .tup l) => if p || PV.imms l then some l else Option.none
  | (_, .dict ks _) => some ks
  | _ => Option.none
noncomputable def revP (a : Bool × PV) : PV → Option (Bool × PV)
  | .int k => if k == -1 then (evalRev a.2).map fun r => (a.1 || okItems a.2, r) else Option.none
  | _ => Option.none
noncomputable def negP : PV → Option PV
  | .int i => if smallI i then some (.int (-i)) else Option.none
  | _ => Option.none
noncomputable def boolP : PV → Option Bool
  | .bool b => some b
  | _ => Option.none
noncomputable def pair1 (a b : PV) : Option (Bool × PV) := if keyP a && b.imm then some (true, .dict [a] [b]) else Option.none
noncomputable def listP (vs : List (Bool × PV)) : Option (Bool × PV) := if vs.all (·.1) && szOk vs.length then some (true, .list (vs.map (·.2))) else Option.none
noncomputable def tupP (vs : List (Bool × PV)) : Option (Bool × PV) := if szOk vs.length then some (vs.all (·.1), .tup (vs.map (·.2))) else Option.none
noncomputable def pubP (a : Bool × PV) : Option PV := if a.1 then some a.2 else Option.none
noncomputable def isCont : PV → Bool
  | .list _ => true
  | .dict _ _ => true
  | _ => false
noncomputable def ownP (a : Bool × PV) : Option (Mode × PV) := if a.1 && okItems a.2 && isCont a.2 then some (.O, a.2) else Option.none
noncomputable def pubM (a : Bool × PV) : Option (Mode × PV) := if a.1 then some (.P, a.2) else Option.none
noncomputable def readP (k : Option NameKind) (s : Option (Mode × PV)) : Option (Bool × PV) := match k with
  | some .local => s.map fun s => (s.1 = .P || s.2.imm, s.2)
  | some .cell => s.map fun s => (s.1 = .P || s.2.imm, s.2)
  | some .free => s.map fun s => (s.1 = .P || s.2.imm, s.2)
  | _ => Option.none

noncomputable def compOk (sc scope : Scope) : Bool := scope.kind == .function && allApart (scope.names.map (·.1)) && scope.names.all fun x =>
  match x.2 with
  | .free => !(strEq x.1 "__classdict__") && (match kindIn x.1 sc.names with
    | some .cell => true
    | some .free => true
    | _ => false)
  | _ => true
noncomputable def nameS (s : Mode × PV) : Option (Bool × PV) := if ownM s.1 then Option.none else some (s.1 = .P || s.2.imm, s.2)
noncomputable def readK (sc : Scope) (x : Str) : Bool := match kindIn x sc.names with
  | some .local => true
  | some .cell => true
  | some .free => true
  | _ => false
noncomputable def nameOk (sc : Scope) (x : Str) : Bool := readK sc x && !(strEq x "__debug__" || strEq x "__classdict__")
noncomputable def okName (sc : Scope) : Expr → Bool
  | .Name x _ => nameOk sc x
  | _ => false
noncomputable def itemsS (a : Bool × PV) : Option (List PV) := if a.1 then itemsP a else Option.none
noncomputable def isTupT : Expr → Bool
  | .Tuple _ _ _ => true
  | _ => false
noncomputable def plainBase : Expr → Bool
  | .Name _ _ => true
  | .Constant _ _ _ => true
  | _ => false
noncomputable def oddName (x : Str) : Bool := strEq x "__debug__" || strEq x "__classdict__"
noncomputable def constV : Const → Option PV
  | .none => some .none
  | .bool b => some (.bool b)
  | .int i => some (.int i)
  | .str s => some (.str s.cps.toList)
  | _ => Option.none
set_option genSizeOf false in
set_option genInjectivity false in
inductive TgtK where
  | name (x : Str)
  | tup (ts : List Expr)
  | sub (d : Str) (i : Expr)
  | other
noncomputable def tgtSub (o : Option Str) (i : Expr) : TgtK := match o with
  | some d => .sub d i
  | Option.none => .other
noncomputable def tgt3 (o : Option (Expr × Expr × Pos)) : TgtK := match o with
  | some q => tgtSub (nameOf q.1) q.2.1
  | Option.none => .other
noncomputable def tgt2 (o : Option (List Expr)) (e : Expr) : TgtK := match o with
  | some ts => .tup ts
  | Option.none => tgt3 (subOf e)
noncomputable def tgt1 (o : Option Str) (e : Expr) : TgtK := match o with
  | some x => .name x
  | Option.none => tgt2 (tupOf e) e
noncomputable def tgtOf (e : Expr) : TgtK := tgt1 (nameOf e) e
set_option genSizeOf false in
set_option genInjectivity false in
inductive CallK where
  | meth (d m : Str) (apos : Pos) (args : List Expr) (pos : Pos)
  | fn (f d : Str) (p : Pos) (args : List Expr)
  | other
noncomputable def callMeth (o : Option Str) (m : Str) (apos : Pos) (args : List Expr) (pos : Pos) : CallK := match o with
  | some d => .meth d m apos args pos
  | Option.none => .other
noncomputable def callFn2 (f : Str) (o : Option (Str × Pos)) (args : List Expr) : CallK := match o with
  | some d => .fn f d.1 d.2 args
  | Option.none => .other
noncomputable def callFn (f : Option Str) (args : List Expr) : CallK := match f with
  | Option.none => .other
  | some f => match args with
    | [] => .other
    | x :: args => callFn2 f (nameOf2 x) args
noncomputable def callKind1 (a : Option (Expr × Str × Pos)) (f : Expr) (args : List Expr) (pos : Pos) : CallK := match a with
  | some q => callMeth (nameOf q.1) q.2.1 q.2.2 args pos
  | Option.none => callFn (nameOf f) args
noncomputable def callKw (kw : List Keyword) (f : Expr) (args : List Expr) (pos : Pos) : CallK := match kw with
  | [] => callKind1 (attrOf f) f args pos
  | _ :: _ => .other
noncomputable def callC (o : Option (Expr × List Expr × List Keyword × Pos)) : CallK := match o with
  | some q => callKw q.2.2.1 q.1 q.2.1 q.2.2.2
  | Option.none => .other
noncomputable def callKind (e : Expr) : CallK := callC (callOf e)
noncomputable def isIsi (b : BI) : Bool := decide (b = .isinstance)
noncomputable def isRng (o : Option BI) : Bool := decide (o = some .range)
noncomputable def isLT (b : BI) : Bool := decide (b = .list) || decide (b = .tuple)
noncomputable def isSum (b : BI) : Bool := decide (b = .sum)
set_option genSizeOf false in
set_option genInjectivity false in
structure Rec where
  e : Scope → Vars → Expr → Option (Bool × PV)
  o : Scope → Vars → Option Expr → Option (Option PV)
  es : Scope → Vars → List Expr → Option (List (Bool × PV))
  bools : Scope → Vars → BoolOp → List Expr → Option Bool
  t : Scope → Vars → Expr → Option Bool
  ts : Scope → Vars → BoolOp → List Expr → Option Bool
  chain : Scope → Vars → PV → List CmpOp → List Expr → Option Bool
  iter : Scope → Vars → Bool → Expr → Option (List PV)
  iterS : Scope → Vars → Bool → Expr → Option (List PV)
  bi : Scope → Vars → BI → List Expr → Option PV
  comp : Scope → Vars → Expr → List Expr → List Comprehension → Expr → List PV → Option (List PV × Vars)
  elt : Scope → Vars → List Comprehension → Expr → Option (List PV × Vars)
  call : Fn → List (Mode × PV) → Option PV
  ss : Scope → Vars → List Stmt → Option Res
  slot : Scope → Vars → Expr → Option (Mode × PV)
  slots : Scope → Vars → List Expr → Option (List (Mode × PV))
  s : Scope → Vars → Stmt → Option Res
  for_ : Scope → Vars → Expr → List Stmt → List PV → Option Res
  while_ : Scope → Vars → Expr → List Stmt → Option Res
noncomputable def Rec.bot : Rec := ⟨fun _ _ _ => none, fun _ _ _ => none, fun _ _ _ => none, fun _ _ _ _ => none, fun _ _ _ => none, fun _ _ _ _ => none, fun _ _ _ _ _ => none, fun _ _ _ _ => none, fun _ _ _ _ => none, fun _ _ _ _ => none, fun _ _ _ _ _ _ _ => none, fun _ _ _ _ => none,
  fun _ _ => none, fun _ _ _ => none, fun _ _ _ => none, fun _ _ _ => none, fun _ _ _ => none, fun _ _ _ _ _ => none, fun _ _ _ _ => none⟩

section
variable (T : Tab) (r : Rec) (sc : Scope) (vars : Vars)
noncomputable def zConst (c : Const) : Option (Bool × PV) := (constV c).bind fun v => some (true, v)
noncomputable def zName (x : Str) : Option (Bool × PV) := bif oddName x then none else readP (kindIn x sc.names) (look x vars)
noncomputable def zBin (l : Expr) (op : Operator) (e : Expr) : Option (Bool × PV) := (r.e sc vars l).bind fun a => (r.e sc vars e).bind fun b => (evalBin op a.2 b.2).bind fun v => some ((a.1 || okItems a.2) && (b.1 || okItems b.2), v)
noncomputable def zNeg (x : Expr) : Option (Bool × PV) := (r.e sc vars x).bind fun a => (negP a.2).bind fun v => some (true, v)
noncomputable def zUn (op : UnaryOp) (x : Expr) : Option (Bool × PV) := match op with
  | .USub => zNeg r sc vars x
  | _ => none
noncomputable def zBoolE (op : BoolOp) (es : List Expr) : Option (Bool × PV) := (r.bools sc vars op es).bind fun b => some (true, .bool b)
noncomputable def zIf (t a b : Expr) : Option (Bool × PV) := (r.t sc vars t).bind fun c => bif c then r.e sc vars a else r.e sc vars b
noncomputable def zCmp (l : Expr) (ops : List CmpOp) (rs : List Expr) : Option (Bool × PV) := bif lastMarks ops rs then none else (r.e sc vars l).bind fun a => (r.chain sc vars a.2 ops rs).bind fun b => some (true, .bool b)
noncomputable def zDict1 (k v : Expr) : Option (Bool × PV) := (r.e sc vars k).bind fun a => (r.e sc vars v).bind fun b => pair1 a.2 b.2
noncomputable def zDictV (k : Expr) (vs : List Expr) : Option (Bool × PV) := match vs with
  | [] => none
  | v :: q => match q with
    | [] => zDict1 r sc vars k v
    | _ :: _ => none
noncomputable def zDictK (o : Option Expr) (q : List (Option Expr)) (vs : List Expr) : Option (Bool × PV) := match o with
  | none => none
  | some k => match q with
    | [] => zDictV r sc vars k vs
    | _ :: _ => none
noncomputable def zDict0 (vs : List Expr) : Option (Bool × PV) := match vs with
  | [] => some (true, .dict [] [])
  | _ :: _ => none
noncomputable def zDict (ks : List (Option Expr)) (vs : List Expr) : Option (Bool × PV) := match ks with
  | [] => zDict0 vs
  | o :: ks => zDictK r sc vars o ks vs
noncomputable def zComp1 (elt : Expr) (scope : Scope) (t it : Expr) (ifs : List Expr) (rest : List Comprehension) : Option (Bool × PV) :=
  bif compOk sc scope then (r.iter sc vars (isTupT t) it).bind fun items => (r.comp scope (within scope.names vars) t ifs rest elt items).bind fun q => bif szOk q.1.length then some (true, .list q.1) else none else none
noncomputable def isZ : Int → Bool
  | .ofNat k => (match k with
    | 0 => true
    | _ + 1 => false)
  | .negSucc _ => false
noncomputable def zComp (elt : Expr) (gens : List Comprehension) (scope : Scope) : Option (Bool × PV) := match gens with
  | [] => none
  | g :: rest => bif isZ g.is_async then zComp1 r sc vars elt scope g.target g.iter g.ifs rest else none
noncomputable def zRev (v s : Expr) : Option (Bool × PV) := (r.e sc vars v).bind fun a => (r.e sc vars s).bind fun k => revP a k.2
noncomputable def zRev0 (v : Expr) (lo hi : Option Expr) (s : Expr) : Option (Bool × PV) := match lo with
  | some _ => none
  | none => match hi with
    | some _ => none
    | none => zRev r sc vars v s
noncomputable def zItem (v i : Expr) : Option (Bool × PV) := (r.e sc vars v).bind fun a => (r.e sc vars i).bind fun k => (evalSub a.2 k.2).bind fun q => some (a.1 || q.imm, q)
noncomputable def zSlice (v : Expr) (lo hi st : Option Expr) : Option (Bool × PV) := match st with
  | none => none
  | some s => zRev0 r sc vars v lo hi s
noncomputable def zSubK (v i : Expr) (q : Option (Option Expr × Option Expr × Option Expr)) : Option (Bool × PV) := match q with
  | some q => zSlice r sc vars v q.1 q.2.1 q.2.2
  | none => zItem r sc vars v i
noncomputable def zSub (v i : Expr) : Option (Bool × PV) := zSubK r sc vars v i (sliceOf i)
noncomputable def zMeth1 (o x : Expr) (name : Str) : Option (Bool × PV) := (r.e sc vars o).bind fun a => (r.e sc vars x).bind fun b => (meth1 name a.2 b.2).bind fun v => some (true, v)
noncomputable def zMeth (o : Expr) (name : Str) (apos pos : Pos) (args : List Expr) : Option (Bool × PV) := match args with
  | [] => none
  | x :: q => match q with
    | [] => bif plainBase o && apos.endLine == pos.line then zMeth1 r sc vars o x name else none
    | _ :: _ => none
noncomputable def zUser (f : Str) (args : List Expr) : Option (Bool × PV) := (tabLook f T).bind fun fn => (r.es sc vars args).bind fun as => bif fn.muts then none else (r.call fn (as.map fun a => slotOf a.1 a.2)).bind fun v => some (true, v)
noncomputable def zFnK (f : Str) (args : List Expr) (o : Option BI) : Option (Bool × PV) := match o with
  | some b => (r.bi sc vars b args).bind fun v => some (true, v)
  | none => zUser T r sc vars f args
noncomputable def zFn (f : Str) (args : List Expr) : Option (Bool × PV) := bif isG sc f then zFnK T r sc vars f args (biOf f) else none
noncomputable def zCallN (f : Option Str) (args : List Expr) : Option (Bool × PV) := match f with
  | some f => zFn T r sc vars f args
  | none => none
noncomputable def zCallA (q : Option (Expr × Str × Pos)) (f : Expr) (args : List Expr) (pos : Pos) : Option (Bool × PV) := match q with
  | some q => zMeth r sc vars q.1 q.2.1 q.2.2 pos args
  | none => zCallN T r sc vars (nameOf f) args
noncomputable def zCallE (f : Expr) (args : List Expr) (kw : List Keyword) (pos : Pos) : Option (Bool × PV) := match kw with
  | _ :: _ => none
  | [] => zCallA T r sc vars (attrOf f) f args pos
end
set_option genSizeOf false in
set_option genInjectivity false in
structure EC where
  run : Rec → Scope → Vars → Option (Bool × PV)
noncomputable def cE (T : Tab) (e : Expr) : EC := match e with
  | .Constant c _ _ => ⟨fun _ _ _ => zConst c⟩
  | .Name x _ => ⟨fun _ sc vars => zName sc vars x⟩
  | .BinOp l op e _ => ⟨fun r sc vars => zBin r sc vars l op e⟩
  | .UnaryOp op x _ => ⟨fun r sc vars => zUn r sc vars op x⟩
  | .BoolOp op es _ => ⟨fun r sc vars => zBoolE r sc vars op es⟩
  | .IfExp t a b _ => ⟨fun r sc vars => zIf r sc vars t a b⟩
  | .Compare l ops rs _ => ⟨fun r sc vars => zCmp r sc vars l ops rs⟩
  | .Tuple es _ _ => ⟨fun r sc vars => (r.es sc vars es).bind tupP⟩
  | .List es _ => ⟨fun r sc vars => (r.es sc vars es).bind listP⟩
  | .Dict ks vs _ => ⟨fun r sc vars => zDict r sc vars ks vs⟩
  | .ListComp elt gens scope _ => ⟨fun r sc vars => zComp r sc vars elt gens scope⟩
  | .Subscript v i _ => ⟨fun r sc vars => zSub r sc vars v i⟩
  | .Call f args kw pos => ⟨fun r sc vars => zCallE T r sc vars f args kw pos⟩
  | _ => ⟨fun _ _ _ => none⟩
section
variable (T : Tab) (r : Rec) (sc : Scope) (vars : Vars)
noncomputable def zE (e : Expr) : Option (Bool × PV) := (cE T e).run r sc vars
noncomputable def zO (o : Option Expr) : Option (Option PV) := match o with
  | none => some none
  | some e => (r.e sc vars e).bind fun a => some (some a.2)
noncomputable def zEs (es : List Expr) : Option (List (Bool × PV)) := match es with
  | [] => some []
  | e :: q => (r.e sc vars e).bind fun v => (r.es sc vars q).bind fun vs => some (v :: vs)
noncomputable def zBools (op : BoolOp) (es : List Expr) : Option Bool := match es with
  | [] => none
  | e :: q => match q with
    | [] => (r.e sc vars e).bind fun a => boolP a.2
    | _ :: _ => (r.e sc vars e).bind fun a => (boolP a.2).bind fun b => bif b == (op == .And) then r.bools sc vars op q else some b
noncomputable def zNot (op : UnaryOp) (x : Expr) : Option Bool := match op with
  | .Not => (r.t sc vars x).bind fun c => some (!c)
  | _ => none
noncomputable def zTC (f : Expr) (as : List Expr) (ks : List Keyword) (p : Pos) : Option Bool := (r.e sc vars (.Call f as ks p)).bind fun a => boolP a.2
noncomputable def zCmpT (l : Expr) (ops : List CmpOp) (rs : List Expr) : Option Bool := bif lastMarks ops rs then none else (r.e sc vars l).bind fun a => r.chain sc vars a.2 ops rs
end
set_option genSizeOf false in
set_option genInjectivity false in
structure TC where
  run : Rec → Scope → Vars → Option Bool
noncomputable def cT (e : Expr) : TC := match e with
  | .UnaryOp op x _ => ⟨fun r sc vars => zNot r sc vars op x⟩
  | .BoolOp op es _ => ⟨fun r sc vars => r.ts sc vars op es⟩
  | .Compare l ops rs _ => ⟨fun r sc vars => zCmpT r sc vars l ops rs⟩
  | .Call f as ks p => ⟨fun r sc vars => zTC r sc vars f as ks p⟩
  | _ => ⟨fun _ _ _ => none⟩
section
variable (T : Tab) (r : Rec) (sc : Scope) (vars : Vars)
noncomputable def zT (e : Expr) : Option Bool := (cT e).run r sc vars
noncomputable def zTs (op : BoolOp) (es : List Expr) : Option Bool := match es with
  | [] => some (op == .And)
  | e :: q => (r.t sc vars e).bind fun b => bif b == (op == .And) then r.ts sc vars op q else some b
noncomputable def zChain2 (a : PV) (op op' : CmpOp) (ops : List CmpOp) (x x' : Expr) (rs : List Expr) : Option Bool := (r.e sc vars x).bind fun b => (evalCmp op a b.2).bind fun c => bif c then r.chain sc vars b.2 (op' :: ops) (x' :: rs) else some false
noncomputable def zChain (a : PV) (ops : List CmpOp) (rs : List Expr) : Option Bool := match ops with
  | [] => none
  | op :: ops => match rs with
    | [] => none
    | x :: rs => match ops with
      | [] => (match rs with
        | [] => (r.e sc vars x).bind fun b => evalCmp op a b.2
        | _ :: _ => none)
      | op' :: ops => match rs with
        | [] => none
        | x' :: rs => zChain2 r sc vars a op op' ops x x' rs
noncomputable def zIterB (tup : Bool) (b : Option BI) (args : List Expr) (e : Expr) : Option (List PV) :=
  bif isRng b then (r.es sc vars args).bind fun as => evalRange (as.map (·.2)) else
  (r.e sc vars e).bind itemsP
noncomputable def zIterK (tup : Bool) (e : Expr) (k : IterK) : Option (List PV) := match k with
  | .call f _ args _ => bif isG sc f then zIterB r sc vars tup (biOf f) args e else none
  | .view d q name apos pos => bif apos.endLine == pos.line then (r.e sc vars (.Name d q)).bind (viewP tup name) else none
  | .other => (r.e sc vars e).bind itemsP
noncomputable def zIter (tup : Bool) (e : Expr) : Option (List PV) := zIterK r sc vars tup e (iterKind e)
noncomputable def zIterSB (tup : Bool) (b : Option BI) (args : List Expr) (e : Expr) : Option (List PV) :=
  bif isRng b then (r.es sc vars args).bind fun as => evalRange (as.map (·.2)) else
  (r.e sc vars e).bind itemsS
noncomputable def zIterSK (tup : Bool) (e : Expr) (k : IterK) : Option (List PV) := match k with
  | .call f _ args _ => bif isG sc f then zIterSB r sc vars tup (biOf f) args e else none
  | .view d _ name apos pos => bif apos.endLine == pos.line && readK sc d && !(oddName d) then (look d vars).bind fun s => (nameS s).bind (viewP tup name) else none
  | .other => (r.e sc vars e).bind itemsS
noncomputable def zIterSN (tup : Bool) (e : Expr) (o : Option Str) : Option (List PV) := match o with
  | some x => bif readK sc x && !(oddName x) then (look x vars).bind fun s => (nameS s).bind itemsP else none
  | none => zIterSK r sc vars tup e (iterKind e)
noncomputable def zIterS (tup : Bool) (e : Expr) : Option (List PV) := zIterSN r sc vars tup e (nameOf e)
noncomputable def zBIr (b : BI) (args2 : List Expr) : Option PV := (r.es sc vars args2).bind fun as => (evalRange (as.map (·.2))).bind fun l => biIt b l
noncomputable def zBIo (b : BI) (x : Expr) : Option PV := (r.e sc vars x).bind fun a => biV b a
noncomputable def zBI1 (b : BI) (x : Expr) (k : IterK) : Option PV := match k with
  | .call f _ args _ => bif isLT b && isG sc f && isRng (biOf f) then zBIr r sc vars b args else zBIo r sc vars b x
  | .view _ _ _ _ _ => zBIo r sc vars b x
  | .other => zBIo r sc vars b x
noncomputable def zBI2 (b : BI) (x y : Expr) : Option PV := (r.e sc vars x).bind fun a => (r.e sc vars y).bind fun c => bi2 b a.2 c.2
noncomputable def zIsi (c : Str) (x : Expr) : Option PV := (r.e sc vars x).bind fun a => bif strEq c "tuple" && isG sc c then isiP a.2 else none
noncomputable def zIsiN (x : Expr) (o : Option Str) : Option PV := match o with
  | some c => zIsi r sc vars c x
  | none => none
noncomputable def zBI (b : BI) (args : List Expr) : Option PV := match args with
  | [] => none
  | x :: q => match q with
    | [] => zBI1 r sc vars b x (iterKind x)
    | y :: q2 => match q2 with
      | _ :: _ => none
      | [] => bif isIsi b then zIsiN r sc vars x (nameOf y) else zBI2 r sc vars b x y
noncomputable def zCompStep (t : Expr) (ifs : List Expr) (rest : List Comprehension) (elt : Expr) (x : PV) (n : Nat) : Option (List PV × Vars) := (bindT n sc t x vars).bind fun vars' => (r.ts sc vars' .And ifs).bind fun c => bif c then r.elt sc vars' rest elt else some ([], vars')
noncomputable def zCompL (n : Nat) (t : Expr) (ifs : List Expr) (rest : List Comprehension) (elt : Expr) (items : List PV) : Option (List PV × Vars) := match items with
  | [] => some ([], vars)
  | x :: xs => (zCompStep r sc vars t ifs rest elt x n).bind fun here => (r.comp sc here.2 t ifs rest elt xs).bind fun more => some (here.1 ++ more.1, more.2)
noncomputable def zElt0 (elt : Expr) : Option (List PV × Vars) := (r.e sc vars elt).bind fun v => (pubP v).bind fun u => some ([u], vars)
noncomputable def zElt1 (t it : Expr) (ifs : List Expr) (elt : Expr) : Option (List PV × Vars) := (r.iter sc vars (isTupT t) it).bind fun its => r.comp sc vars t ifs [] elt its
noncomputable def zElt (rest : List Comprehension) (elt : Expr) : Option (List PV × Vars) := match rest with
  | [] => zElt0 r sc vars elt
  | g :: q => match q with
    | _ :: _ => none
    | [] => bif isZ g.is_async then zElt1 r sc vars g.target g.iter g.ifs elt else none
noncomputable def zRun (fn : Fn) (as : List (Mode × PV)) : Option PV := (bindArgsV fn.params as fn.dflts).bind fun vars => (r.ss fn.scope vars fn.body).bind fun q => some (retOf q)
noncomputable def zCallK (c : Option PV) (fn : Fn) (as : List (Mode × PV)) : Option PV := match c with
  | some v => (match as with
    | [] => some v
    | _ :: _ => none)
  | none => zRun r fn as
noncomputable def zCall (fn : Fn) (as : List (Mode × PV)) : Option PV := zCallK r fn.const fn as
noncomputable def zThen (q : List Stmt) (res : Res) : Option Res := match res with
  | .next vars' => r.ss sc vars' q
  | .ret v => some (.ret v)
noncomputable def zSs (body : List Stmt) : Option Res := match body with
  | [] => some (.next vars)
  | st :: q => (r.s sc vars st).bind (zThen r sc q)
noncomputable def zSlot (e : Expr) : Option (Mode × PV) := bif isDisplay e then (r.e sc (borrow vars) e).bind ownP else (r.e sc vars e).bind pubM
noncomputable def zSlots (es : List Expr) : Option (List (Mode × PV)) := match es with
  | [] => some []
  | e :: q => (r.slot sc vars e).bind fun s => (r.slots sc vars q).bind fun ss => some (s :: ss)
noncomputable def zAsgTup (ts es : List Expr) : Option Res := (swapNames sc ts es).bind fun sw => (r.slots sc vars es).bind fun ss => (setBoth sw ss vars).bind fun v => some (.next v)
noncomputable def zAsgTupO (ts : List Expr) (o : Option (List Expr)) : Option Res := match o with
  | some es => zAsgTup r sc vars ts es
  | none => none
noncomputable def zAsgSub (d : Str) (i e : Expr) : Option Res := bif nameOk sc d then (r.e sc vars e).bind fun a => (r.e sc vars i).bind fun k => (storeP d k.2 a.2 vars).bind fun v => some (.next v) else none
noncomputable def zAsgN (x : Str) (e : Expr) : Option Res := bif ownK sc x then (r.slot sc vars e).bind fun s => some (.next (setV x s vars)) else none
noncomputable def zAsg1 (k : TgtK) (e : Expr) : Option Res := match k with
  | .name x => zAsgN r sc vars x e
  | .tup ts => zAsgTupO r sc vars ts (tupOf e)
  | .sub d i => zAsgSub r sc vars d i e
  | .other => none
noncomputable def zAsg (ts : List Expr) (e : Expr) : Option Res := match ts with
  | [] => none
  | t :: q => match q with
    | [] => zAsg1 r sc vars (tgtOf t) e
    | _ :: _ => none
noncomputable def zAugN (x : Str) (t : Expr) (op : Operator) (e : Expr) : Option Res := bif ownK sc x then (r.e sc vars t).bind fun o => (r.e sc vars e).bind fun a => (evalAug op o.2 a.2).bind fun v => some (.next (setV x (.P, v) vars)) else none
noncomputable def zAugS (d : Str) (i : Expr) (op : Operator) (e : Expr) : Option Res := bif nameOk sc d then (r.e sc vars i).bind fun k => (r.e sc vars e).bind fun a => (augP d k.2 op a.2 vars).bind fun v => some (.next v) else none
noncomputable def zAugI (d : Str) (i : Expr) (op : Operator) (e : Expr) (o : Option Str) : Option Res := match o with
  | some _ => zAugS r sc vars d i op e
  | none => none
noncomputable def zAug (k : TgtK) (t : Expr) (op : Operator) (e : Expr) : Option Res := match k with
  | .name x => zAugN r sc vars x t op e
  | .sub d i => zAugI r sc vars d i op e (nameOf i)
  | _ => none
noncomputable def zForS (t it : Expr) (body : List Stmt) : Option Res := (r.iterS sc (freeze it vars) (isTupT t) it).bind fun items => r.for_ sc (freeze it vars) t body items
noncomputable def zIfS (t : Expr) (a b : List Stmt) : Option Res := (r.t sc vars t).bind fun c => bif c then r.ss sc vars a else r.ss sc vars b
noncomputable def zRetK (e : Expr) (o : Option PV) : Option Res := match o with
  | some v => bif okName sc e then some (.ret v) else none
  | none => (r.e sc vars e).bind fun a => (pubP a).bind fun v => some (.ret v)
noncomputable def zRet (e : Expr) : Option Res := zRetK r sc vars e (ownedName e vars)
noncomputable def zMut (fn : Fn) (d : Str) (as : List (Bool × PV)) (v : PV) : Option Res := bif fn.muts && as.all (·.1) && isCont v then (bindArgsV fn.params ((.M, v) :: as.map fun a => (.P, a.2)) fn.dflts).bind fun vars2 => (r.ss fn.scope vars2 fn.body).bind fun q => (backP d fn.params q vars).bind fun v => some (.next v) else none
noncomputable def zExprF (f d : Str) (p : Pos) (args : List Expr) : Option Res := bif isG sc f && nameOk sc d then (tabLook f T).bind fun fn => (r.es sc vars args).bind fun as => (ownedName (.Name d p) vars).bind fun v => zMut r vars fn d as v else none
noncomputable def zExprM (d m : Str) (apos : Pos) (args : List Expr) (pos : Pos) : Option Res := bif apos.endLine == pos.line && nameOk sc d && decide (args.length < 30) then (r.es sc vars args).bind fun as => (methP d m (as.map (·.2)) vars).bind fun v => some (.next v) else none
noncomputable def zExpr (k : CallK) : Option Res := match k with
  | .meth d m apos args pos => zExprM r sc vars d m apos args pos
  | .fn f d p args => zExprF T r sc vars f d p args
  | .other => none
end
set_option genSizeOf false in
set_option genInjectivity false in
structure SC where
  run : Rec → Scope → Vars → Option Res
noncomputable def cFor (t it : Expr) (body els : List Stmt) : SC := match els with
  | [] => ⟨fun r sc vars => zForS r sc vars t it body⟩
  | _ :: _ => ⟨fun _ _ _ => none⟩
noncomputable def cWhile (test : Expr) (body els : List Stmt) : SC := match els with
  | [] => ⟨fun r sc vars => r.while_ sc vars test body⟩
  | _ :: _ => ⟨fun _ _ _ => none⟩
noncomputable def cRet (o : Option Expr) : SC := match o with
  | some e => ⟨fun r sc vars => zRet r sc vars e⟩
  | none => ⟨fun _ _ _ => none⟩
noncomputable def cS (T : Tab) (st : Stmt) : SC := match st with
  | .Assign ts e _ => ⟨fun r sc vars => zAsg r sc vars ts e⟩
  | .AugAssign t op e _ => ⟨fun r sc vars => zAug r sc vars (tgtOf t) t op e⟩
  | .For t it body els _ => cFor t it body els
  | .While test body els _ => cWhile test body els
  | .If t a b _ => ⟨fun r sc vars => zIfS r sc vars t a b⟩
  | .Return o _ => cRet o
  | .Expr e _ => ⟨fun r sc vars => zExpr T r sc vars (callKind e)⟩
  | _ => ⟨fun _ _ _ => none⟩
section
variable (T : Tab) (r : Rec) (sc : Scope) (vars : Vars)
noncomputable def zS (st : Stmt) : Option Res := (cS T st).run r sc vars
noncomputable def zNextF (t : Expr) (body : List Stmt) (xs : List PV) (q : Res) : Option Res := match q with
  | .next vars' => r.for_ sc vars' t body xs
  | .ret v => some (.ret v)
noncomputable def zForL (n : Nat) (t : Expr) (body : List Stmt) (items : List PV) : Option Res := match items with
  | [] => some (.next vars)
  | x :: xs => (bindT n sc t x vars).bind fun vars' => (r.ss sc vars' body).bind (zNextF r sc t body xs)
noncomputable def zNextW (test : Expr) (body : List Stmt) (q : Res) : Option Res := match q with
  | .next vars' => r.while_ sc vars' test body
  | .ret v => some (.ret v)
noncomputable def zWhileL (test : Expr) (body : List Stmt) : Option Res := (r.t sc vars test).bind fun c => bif c then (r.ss sc vars body).bind (zNextW r sc test body) else some (.next vars)
end
noncomputable def zStep (T : Tab) (n : Nat) (r : Rec) : Rec := ⟨zE T r, zO r, zEs r, zBools r, zT r, zTs r, zChain r, zIter r, zIterS r, zBI r, fun sc vars => zCompL r sc vars n, zElt r, zCall r, zSs r, zSlot r, zSlots r, zS T r, fun sc vars => zForL r sc vars n, zWhileL r⟩
noncomputable def zRec (T : Tab) : Nat → Rec
  | 0 => Rec.bot
  | n + 1 => zStep T n (zRec T n)
section
variable (T : Tab) (n : Nat)
noncomputable abbrev xE := (zRec T n).e
noncomputable abbrev xO := (zRec T n).o
noncomputable abbrev xEs := (zRec T n).es
noncomputable abbrev xBools := (zRec T n).bools
noncomputable abbrev xT := (zRec T n).t
noncomputable abbrev xTs := (zRec T n).ts
noncomputable abbrev xChain := (zRec T n).chain
noncomputable abbrev xIter := (zRec T n).iter
noncomputable abbrev xIterS := (zRec T n).iterS
noncomputable abbrev xBI := (zRec T n).bi
noncomputable abbrev xComp := (zRec T n).comp
noncomputable abbrev xElt := (zRec T n).elt
noncomputable abbrev xCall := (zRec T n).call
noncomputable abbrev xSs := (zRec T n).ss
noncomputable abbrev xSlot := (zRec T n).slot
noncomputable abbrev xSlots := (zRec T n).slots
noncomputable abbrev xS := (zRec T n).s
noncomputable abbrev xFor := (zRec T n).for_
noncomputable abbrev xWhile := (zRec T n).while_
end

/-! inversions, short ones -/
theorem bnd {α β : Type} {o : Option α} {f : α → Option β} {r : β} (h : o.bind f = some r) : ∃ a, o = some a ∧ f a = some r := match o, h with
  | some a, h => ⟨a, rfl, h⟩
theorem noS {α : Type} {r : α} {P : Prop} (h : (Option.none : Option α) = some r) : P := nomatch h
theorem onlyIf {α : Type} {c : Bool} {a : Option α} {r : α} (h : (bif c then a else Option.none) = some r) : c = true ∧ a = some r := match c, h with
  | true, h => ⟨rfl, h⟩
theorem unlessIf {α : Type} {c : Bool} {a : Option α} {r : α} (h : (bif c then Option.none else a) = some r) : c = false ∧ a = some r := match c, h with
  | false, h => ⟨rfl, h⟩
theorem two {a b : Bool} (h : (a && b) = true) : a = true ∧ b = true := match a, b, h with
  | true, true, _ => ⟨rfl, rfl⟩
theorem notB {a : Bool} (h : (!a) = true) : a = false := match a, h with
  | false, _ => rfl
theorem ifS {α : Type} {c : Bool} {a : α} {r : α} (h : (if c = true then some a else Option.none) = some r) : c = true ∧ a = r := match c, h with
  | true, h => ⟨rfl, Option.some.inj h⟩
theorem intP_eq {v : PV} {i : Int} (h : intP v = some i) : v = .int i := by cases v <;> first | (cases h; rfl) | exact noS h
theorem tupL_eq {v : PV} {i : List PV} (h : tupL v = some i) : v = .tup i := by cases v <;> first | (cases h; rfl) | exact noS h
theorem listL_eq {v : PV} {i : List PV} (h : listL v = some i) : v = .list i := by cases v <;> first | (cases h; rfl) | exact noS h
theorem dictL2_eq {v : PV} {i : List PV × List PV} (h : dictL2 v = some i) : v = .dict i.1 i.2 := by cases v <;> first | (cases h; rfl) | exact noS h
theorem ownV_eq {s : Mode × PV} {v : PV} (h : ownV s = some v) : s = (.O, v) := by obtain ⟨m, u⟩ := s; cases m <;> first | (cases h; rfl) | exact noS h
theorem lentV_eq {s : Mode × PV} {v : PV} (h : lentV s = some v) : s = (.M, v) := by obtain ⟨m, u⟩ := s; cases m <;> first | (cases h; rfl) | exact noS h
theorem ifO {α : Type} {c : Bool} {a : Option α} {r : α} (h : (if c = true then a else Option.none) = some r) : c = true ∧ a = some r := match c, h with
  | true, h => ⟨rfl, h⟩
theorem isLoc_eq {k : Option NameKind} (h : isLoc k = true) : k = some .local := of_decide_eq_true h
theorem onlyT {α : Type} {c : Bool} {a b : Option α} {r : Option α} (hc : c = true) (h : (bif c then a else b) = r) : a = r := by rw [hc] at h; exact h
theorem onlyF {α : Type} {c : Bool} {a b : Option α} {r : Option α} (hc : c = false) (h : (bif c then a else b) = r) : b = r := by rw [hc] at h; exact h
theorem isZ_eq {k : Int} (h : isZ k = true) : k = 0 := match k, h with
  | .ofNat 0, _ => rfl
theorem nameOf2_eq {e : Expr} {x : Str × Pos} (h : nameOf2 e = some x) : e = .Name x.1 x.2 := by
  have q := view_is e
  cases hv : view e with
  | name y p => rw [hv] at q; rw [← Option.some.inj ((congrArg nameV hv).symm.trans h)]; exact q
  | _ => exact noS ((congrArg nameV hv).symm.trans h)
theorem nameOf_eq {e : Expr} {x : Str} (h : nameOf e = some x) : ∃ p, e = .Name x p := by
  cases q : nameOf2 e with
  | none => exact noS ((congrArg fstO q).symm.trans h)
  | some a => cases (congrArg fstO q).symm.trans h; exact ⟨_, nameOf2_eq q⟩
theorem callOf_eq {e : Expr} {x : Expr × List Expr × List Keyword × Pos} (h : callOf e = some x) : e = .Call x.1 x.2.1 x.2.2.1 x.2.2.2 := by
  have q := view_is e
  cases hv : view e with
  | call f a k p => rw [hv] at q; rw [← Option.some.inj ((congrArg callV hv).symm.trans h)]; exact q
  | _ => exact noS ((congrArg callV hv).symm.trans h)
theorem subOf_eq {e : Expr} {x : Expr × Expr × Pos} (h : subOf e = some x) : e = .Subscript x.1 x.2.1 x.2.2 := by
  have q := view_is e
  cases hv : view e with
  | sub v i p => rw [hv] at q; rw [← Option.some.inj ((congrArg subV hv).symm.trans h)]; exact q
  | _ => exact noS ((congrArg subV hv).symm.trans h)
theorem attrOf_eq {e : Expr} {x : Expr × Str × Pos} (h : attrOf e = some x) : e = .Attribute x.1 x.2.1 x.2.2 := by
  have q := view_is e
  cases hv : view e with
  | attr o n p => rw [hv] at q; rw [← Option.some.inj ((congrArg attrV hv).symm.trans h)]; exact q
  | _ => exact noS ((congrArg attrV hv).symm.trans h)
theorem sliceOf_eq {e : Expr} {x : Option Expr × Option Expr × Option Expr} (h : sliceOf e = some x) : ∃ p, e = .Slice x.1 x.2.1 x.2.2 p := by
  have q := view_is e
  cases hv : view e with
  | slice a b c p => rw [hv] at q; rw [← Option.some.inj ((congrArg sliceV hv).symm.trans h)]; exact ⟨p, q⟩
  | _ => exact noS ((congrArg sliceV hv).symm.trans h)
theorem tupOf_eq {e : Expr} {x : List Expr} (h : tupOf e = some x) : ∃ k p, e = .Tuple x k p := by
  have q := view_is e
  cases hv : view e with
  | tup es k p => rw [hv] at q; rw [← Option.some.inj ((congrArg tupV hv).symm.trans h)]; exact ⟨k, p, q⟩
  | _ => exact noS ((congrArg tupV hv).symm.trans h)
noncomputable def IterIs (e : Expr) : Prop := (∃ f q args p, e = .Call (.Name f q) args [] p ∧ iterKind e = .call f q args p) ∨ (∃ d q name apos p, e = .Call (.Attribute (.Name d q) name apos) [] [] p ∧ iterKind e = .view d q name apos p) ∨ iterKind e = .other
theorem IterIs.call (f : Str) (q : Pos) (args : List Expr) (p : Pos) : IterIs (.Call (.Name f q) args [] p) := .inl ⟨f, q, args, p, rfl, rfl⟩
theorem IterIs.view (d : Str) (q : Pos) (name : Str) (apos p : Pos) : IterIs (.Call (.Attribute (.Name d q) name apos) [] [] p) := .inr (.inl ⟨d, q, name, apos, p, rfl, rfl⟩)
theorem IterIs.no {e : Expr} (h : iterKind e = .other) : IterIs e := .inr (.inr h)
theorem iterCall_is {f : Expr} {args : List Expr} {p : Pos} : IterIs (.Call f args [] p) := by
  cases hf : nameOf2 f with
  | some g => rw [nameOf2_eq hf]; exact .call _ _ _ _
  | none =>
    have e0 : iterKind (.Call f args [] p) = iterCall none f args p := congrArg (fun o => iterCall o f args p) hf
    cases args with
    | cons => exact .no e0
    | nil =>
      cases ha : attrOf f with
      | none => exact .no (e0.trans (congrArg (fun o => iterAttr o p) ha))
      | some q =>
        cases hd : nameOf2 q.1 with
        | none => exact .no (e0.trans ((congrArg (fun o => iterAttr o p) ha).trans (congrArg (fun o => iterView o q.2.1 q.2.2 p) hd)))
        | some d => rw [attrOf_eq ha, nameOf2_eq hd]; exact .view _ _ _ _ _
theorem iterKind_is {e : Expr} : IterIs e := by
  cases hc : callOf e with
  | none => exact .no (congrArg iterC hc)
  | some c =>
    rw [callOf_eq hc]
    cases c.2.2.1 with
    | cons => exact .no rfl
    | nil => exact iterCall_is
noncomputable def TgtIs (e : Expr) : Prop := (∃ x p, e = .Name x p) ∨ (∃ ts k p, e = .Tuple ts k p) ∨ (∃ d dp i p, e = .Subscript (.Name d dp) i p) ∨ tgtOf e = .other
theorem tgtOf_is {e : Expr} : TgtIs e := by
  cases hn : nameOf e with
  | some x => exact .inl ⟨x, nameOf_eq hn⟩
  | none =>
    have e1 : tgtOf e = tgt2 (tupOf e) e := congrArg (tgt1 · e) hn
    cases ht : tupOf e with
    | some ts => exact .inr (.inl ⟨ts, tupOf_eq ht⟩)
    | none =>
      have e2 := e1.trans (congrArg (tgt2 · e) ht)
      cases hs : subOf e with
      | none => exact .inr (.inr (.inr (e2.trans (congrArg tgt3 hs))))
      | some q =>
        cases hv : nameOf q.1 with
        | none => exact .inr (.inr (.inr (e2.trans ((congrArg tgt3 hs).trans (congrArg (tgtSub · q.2.1) hv)))))
        | some d => obtain ⟨p, e⟩ := nameOf_eq hv; exact .inr (.inr (.inl ⟨d, p, q.2.1, q.2.2, e ▸ subOf_eq hs⟩))
noncomputable def CallIs (e : Expr) : Prop := (∃ d dp m apos args pos, e = .Call (.Attribute (.Name d dp) m apos) args [] pos) ∨ (∃ f fq d p args pos, e = .Call (.Name f fq) (.Name d p :: args) [] pos) ∨ callKind e = .other
theorem CallIs.meth (d : Str) (dp : Pos) (m : Str) (apos : Pos) (args : List Expr) (pos : Pos) : CallIs (.Call (.Attribute (.Name d dp) m apos) args [] pos) := .inl ⟨d, dp, m, apos, args, pos, rfl⟩
theorem CallIs.fn (f : Str) (fq : Pos) (d : Str) (p : Pos) (args : List Expr) (pos : Pos) : CallIs (.Call (.Name f fq) (.Name d p :: args) [] pos) := .inr (.inl ⟨f, fq, d, p, args, pos, rfl⟩)
theorem CallIs.no {e : Expr} (h : callKind e = .other) : CallIs e := .inr (.inr h)
theorem callFn_is {g : Str} {fq : Pos} {args : List Expr} {pos : Pos} : CallIs (.Call (.Name g fq) args [] pos) := by
  cases args with
  | nil => exact .no rfl
  | cons x args =>
    cases hx : nameOf2 x with
    | none => exact .no (congrArg (fun o => callFn2 g o args) hx)
    | some d => rw [nameOf2_eq hx]; exact .fn _ _ _ _ _ _
theorem callKind_is {e : Expr} : CallIs e := by
  cases hc : callOf e with
  | none => exact .no (congrArg callC hc)
  | some c =>
    rw [callOf_eq hc]
    cases c.2.2.1 with
    | cons => exact .no rfl
    | nil =>
      cases ha : attrOf c.1 with
      | some q =>
        cases hd : nameOf q.1 with
        | none => exact .no ((congrArg (fun o => callKind1 o c.1 c.2.1 c.2.2.2) ha).trans (congrArg (fun o => callMeth o q.2.1 q.2.2 c.2.1 c.2.2.2) hd))
        | some d => obtain ⟨dp, e⟩ := nameOf_eq hd; rw [attrOf_eq ha, e]; exact .meth _ _ _ _ _ _
      | none =>
        cases hf : nameOf c.1 with
        | none => exact .no ((congrArg (fun o => callKind1 o c.1 c.2.1 c.2.2.2) ha).trans (congrArg (fun o => callFn o c.2.1) hf))
        | some g => obtain ⟨fq, e⟩ := nameOf_eq hf; rw [e]; exact callFn_is
theorem isRng_eq {o : Option BI} (h : isRng o = true) : o = some .range := of_decide_eq_true h
theorem isSum_eq {b : BI} (h : isSum b = true) : b = .sum := of_decide_eq_true h
theorem isIsi_eq {b : BI} (h : isIsi b = true) : b = .isinstance := of_decide_eq_true h
theorem isLT_eq {b : BI} (h : isLT b = true) : b = .list ∨ b = .tuple := ((Bool.or_eq_true _ _).mp h).imp of_decide_eq_true of_decide_eq_true

theorem appL_is {as l l' : List PV} (e : appL l as = some l') : ∃ v, as = [v] ∧ v.imm = true ∧ szOk l.length = true ∧ l' = l ++ [v] := by
  match as, e with
  | [], e => exact noS e
  | [v], e =>
    obtain ⟨hc, e⟩ := onlyIf (show (bif v.imm && szOk l.length then some (l ++ [v]) else none) = some l' from e)
    obtain ⟨h1, h2⟩ := two hc
    exact ⟨v, rfl, h1, h2, (Option.some.inj e).symm⟩
  | _ :: _ :: _, e => exact noS e
theorem insL_is {as l l' : List PV} (e : insL l as = some l') : ∃ i v, as = [.int i, v] ∧ v.imm = true ∧ szOk l.length = true ∧ 0 ≤ i ∧ i ≤ l.length ∧ l' = l.take i.toNat ++ v :: l.drop i.toNat := by
  match as, e with
  | [], e => exact noS e
  | [_], e => exact noS e
  | [k, v], e =>
    obtain ⟨i, hi, e⟩ := bnd (show (intP k).bind (fun i => bif v.imm && szOk l.length && decide (0 ≤ i) && decide (i ≤ l.length) then some (l.take i.toNat ++ v :: l.drop i.toNat) else none) = some l' from e)
    obtain ⟨hc, e⟩ := onlyIf e
    obtain ⟨hc, h4⟩ := two hc
    obtain ⟨hc, h3⟩ := two hc
    obtain ⟨h1, h2⟩ := two hc
    exact ⟨i, v, by rw [intP_eq hi], h1, h2, of_decide_eq_true h3, of_decide_eq_true h4, (Option.some.inj e).symm⟩
  | _ :: _ :: _ :: _, e => exact noS e
theorem methL_is {m : Str} {as l l' : List PV} (e : methL m as l = some l') : (strEq m "append" = true ∧ appL l as = some l') ∨ (strEq m "insert" = true ∧ insL l as = some l') := by
  have e : (bif strEq m "append" then appL l as else bif strEq m "insert" then insL l as else none) = some l' := e
  cases h : strEq m "append" with
  | true => rw [h] at e; exact .inl ⟨rfl, e⟩
  | false => rw [h] at e; exact .inr (onlyIf e)
theorem bindA {p : Str} {ps : List Str} {a : Mode × PV} {as : List (Mode × PV)} {ds : List (Str × PV)} {vars : Vars} (e : bindArgsV (p :: ps) (a :: as) ds = some vars) : ∃ v, bindArgsV ps as (dropD p ds) = some v ∧ vars = (p, a) :: v := by
  obtain ⟨v, h, e⟩ := Option.map_eq_some_iff.mp (show (bindArgsV ps as (dropD p ds)).map ((p, a) :: ·) = some vars from e)
  exact ⟨v, h, e.symm⟩
theorem bindD {p : Str} {ps : List Str} {d : Str × PV} {ds : List (Str × PV)} {vars : Vars} (e : bindArgsV (p :: ps) [] (d :: ds) = some vars) : strEq p d.1 = true ∧ ∃ v, bindArgsV ps [] ds = some v ∧ vars = (p, .P, d.2) :: v := by
  obtain ⟨hp, e⟩ := ifO (show (if strEq p d.1 = true then (bindArgsV ps [] ds).map ((p, .P, d.2) :: ·) else none) = some vars from e)
  obtain ⟨v, h, e⟩ := Option.map_eq_some_iff.mp e
  exact ⟨hp, v, h, e.symm⟩
theorem dropD_no {p : Str} {d : Str × PV} {q : List (Str × PV)} (h : strEq p d.1 = false) : dropD p (d :: q) = d :: q := if_neg (by rw [h]; exact nofun)
theorem dropD_yes {p : Str} {d : Str × PV} {q : List (Str × PV)} (h : strEq p d.1 = true) : dropD p (d :: q) = q := if_pos h

noncomputable def constP : Expr → Option PV
  | .Constant .none _ _ => some .none
  | .Constant (.int i) _ _ => some (.int i)
  | _ => Option.none
noncomputable def fnOfStmt (muts : List Str) (consts : List (Str × PV)) : Stmt → Option (Str × Fn)
  | .FunctionDef name args body _ _ _ scope _ _ _ =>
    let ps := args.args.map (·.arg)
    let ds := (ps.drop (ps.length - args.defaults.length)).zip (args.defaults.filterMap constP)
    let kd := (args.kwonlyargs.map (·.arg)).zip (args.kw_defaults.filterMap fun o => o.bind constP)
    some (name, ⟨ps, ds ++ kd, body, scope, muts.any (strEq name), (consts.find? fun c => strEq c.1 name).map (·.2)⟩)
  | _ => Option.none
noncomputable def tabOf (p : Program) (consts : List (Str × PV)) : Tab := p.main.body.filterMap (fnOfStmt ["insort_left"] consts)

end Mine

set_option Elab.async false
namespace Mine
open PySem PySem.Calls PyProof.Rows PySem.W PySem.SeqAt

inductive Atom where
  | int (i : Int)
  | str (s : Str)
  deriving DecidableEq

noncomputable def Atom.is : Atom → Value → Bool
  | .int i, v => v.isInt i
  | .str x, v => v.isStrOf x
noncomputable def Atom.hash (w : World) : Atom → Int
  | .int i => hashInt i
  | .str x => hashStr w x
theorem Atom.is_shape {a : Atom} {v : Value} (h : a.is v = true) : (∃ i t, a = .int i ∧ v = .int i t) ∨ ∃ x t, a = .str x ∧ v = .str x t := by
  cases a with
  | int i => obtain ⟨t, rfl⟩ := Value.isInt_shape h; exact .inl ⟨i, t, rfl, rfl⟩
  | str x => obtain ⟨t, rfl⟩ := Value.isStrOf_shape h; exact .inr ⟨x, t, rfl, rfl⟩

noncomputable def atomKind (prog : Program) (w : World) : PySem.KeyKind prog w Atom where
  is := Atom.is
  hash := Atom.hash w
  inj := fun v a b ha hb => by
    rcases Atom.is_shape ha with ⟨i, t, rfl, rfl⟩ | ⟨x, t, rfl, rfl⟩ <;> rcases Atom.is_shape hb with ⟨j, u, rfl, e⟩ | ⟨y, u, rfl, e⟩ <;> cases e <;> rfl
  byValue := fun k v h => by
    rcases Atom.is_shape h with ⟨i, t, rfl, rfl⟩ | ⟨x, t, rfl, rfl⟩ <;> rfl
  pyHash := fun {A E s k v Q} hv h => by
    rcases Atom.is_shape hv with ⟨i, t, rfl, rfl⟩ | ⟨x, t, rfl, rfl⟩
    · exact wpAny_pyHash_int h
    · exact wpAny_pyHash_str h
  eqBool := fun {A E s a b u v Q} hu hv h => by
    rcases Atom.is_shape hu with ⟨i, t, rfl, rfl⟩ | ⟨x, t, rfl, rfl⟩ <;> rcases Atom.is_shape hv with ⟨j, u, rfl, rfl⟩ | ⟨y, u, rfl, rfl⟩
    · refine wpAny_eqBool_int ?_
      have e : decide (Atom.int i = Atom.int j) = (i == j) := by
        by_cases hij : i = j
        · subst hij; simp
        · simp [hij]
      rw [← e]; exact h
    · have e : decide (Atom.int i = Atom.str y) = false := by simp
      rw [e] at h
      exact EqAt.int_str i t y u prog w E _ h
    · have e : decide (Atom.str x = Atom.int j) = false := by simp
      rw [e] at h
      exact EqAt.str_int x t j u prog w E _ h
    · refine wpAny_eqBool_str ?_
      have e : decide (Atom.str x = Atom.str y) = decide (x = y) := by simp
      rw [← e]; exact h
  «strs» := fun k x t v h => by
    rcases Atom.is_shape h with ⟨i, u, _, e⟩ | ⟨y, u, rfl, e⟩
    · cases e
    · cases e
      exact (strKind prog w).«strs» x x t v (by simp [PySem.strKind, Value.isStrOf])

noncomputable def atomPV : Atom → PV
  | .int i => .int i
  | .str s => .str s.cps.toList
noncomputable def tupPV (l : List Atom) : PV := .tup (l.map atomPV)
theorem Str.ext_list {x y : Str} (h : x.cps.toList = y.cps.toList) : x = y := by
  cases x; cases y; simp only [PySem.Str.mk.injEq]; exact Array.toList_inj.mp h
theorem atomPV_inj {a b : Atom} (h : atomPV a = atomPV b) : a = b := by
  cases a <;> cases b <;> simp only [atomPV, PV.int.injEq, PV.str.injEq, reduceCtorEq] at h
  · rw [h]
  · rw [Str.ext_list h]
theorem tupPV_inj {a b : List Atom} (h : tupPV a = tupPV b) : a = b := by
  unfold tupPV at h
  simp only [PV.tup.injEq] at h
  exact (List.map_inj_right (fun _ _ e => atomPV_inj e)).mp h

noncomputable def PlainTup (h : Heap) (a : Addr) (items : Array Value) : Prop := ∃ n, IsT h a items n
theorem PlainTup.isTuple {h : Heap} {a : Addr} {items : Array Value} (x : PlainTup h a items) : h.IsTuple a items := let ⟨n, e⟩ := x; ⟨_, e, rfl, n, rfl⟩
noncomputable def tupKind (prog : Program) (w : World) : HeapKind prog w (List Atom) where
  is := fun h ks a => IsTupleKey (atomKind prog w) h ks a ∧ ∃ items, PlainTup h a items
  hash := (tupleKind (atomKind prog w)).hash
  draws := (tupleKind (atomKind prog w)).draws
  room := fun A => A.units < cLine
  inj := fun hx hy => (tupleKind (atomKind prog w)).inj hx.1 hy.1
  keeps := fun {h h' k a d o es ep} x ho hd hs => ⟨(tupleKind (atomKind prog w)).keeps x.1 ho hd hs, by
    obtain ⟨items, n, e⟩ := x.2
    refine ⟨items, n, (hs.2 a ?_).trans e⟩
    rintro rfl
    rw [e] at ho; cases ho; cases hd⟩
  pyHash := fun hu hk q => (tupleKind (atomKind prog w)).pyHash hu hk.1 q
  eqBool := fun hu hx hy q => (tupleKind (atomKind prog w)).eqBool hu hx.1 hy.1 q
  quiet := fun hk q => (tupleKind (atomKind prog w)).quiet hk.1 q

section
variable (prog : Program) (w : World)
mutual
inductive VRep (h : Heap) (ok : Addr → Prop) : PV → Value → Prop
  | none : VRep h ok .none .none
  | bool (b : Bool) : VRep h ok (.bool b) (.bool b)
  | int (i : Int) (t : Tok) : VRep h ok (.int i) (.int i t)
  | str {l : List Nat} (s : Str) (t : Tok) (e : s.cps.toList = l) : VRep h ok (.str l) (.str s t)
  | tup {l : List PV} {a : Addr} {items : Array Value} (hl : PlainTup h a items) (ha : VAll h ok l items.toList) : VRep h ok (.tup l) (.ref a)
  | list {l : List PV} {a : Addr} {items : Array Value} (hk : ok a) (hl : h.PlainList a items) (ha : VAll h ok l items.toList) : VRep h ok (.list l) (.ref a)
  | dictT {ks vs : List PV} {a : Addr} (xs : List (List Atom × Addr × Value)) (hk : ok a) (hd : h.DictOfH (tupKind prog w) a xs) (hds : (a == sysModules) = false)
      (e : ks = xs.map fun x => tupPV x.1) (ha : VAll h ok vs (xs.map fun x => x.2.2)) : VRep h ok (.dict ks vs) (.ref a)
  | dictA {ks vs : List PV} {a : Addr} (xs : List (Atom × Value)) (hk : ok a) (hd : h.DictOf (atomKind prog w) a xs) (hds : (a == sysModules) = false)
      (e : ks = xs.map fun x => atomPV x.1) (ha : VAll h ok vs (xs.map fun x => x.2)) : VRep h ok (.dict ks vs) (.ref a)
inductive VAll (h : Heap) (ok : Addr → Prop) : List PV → List Value → Prop
  | nil : VAll h ok [] []
  | cons {x : PV} {v : Value} {l : List PV} {vs : List Value} (a : VRep h ok x v) (r : VAll h ok l vs) : VAll h ok (x :: l) (v :: vs)
end
end

section
variable {prog : Program} {w : World} {h h' : Heap} {ok ok' : Addr → Prop}

theorem VRep.none_inv {v : Value} (r : VRep prog w h ok .none v) : v = .none := by cases r; rfl
theorem VRep.bool_inv {b : Bool} {v : Value} (r : VRep prog w h ok (.bool b) v) : v = .bool b := by cases r; rfl
theorem VRep.int_inv {i : Int} {v : Value} (r : VRep prog w h ok (.int i) v) : ∃ t, v = .int i t := by cases r; exact ⟨_, rfl⟩
theorem VRep.str_inv {l : List Nat} {v : Value} (r : VRep prog w h ok (.str l) v) : ∃ s t, v = .str s t ∧ s.cps.toList = l := by cases r; exact ⟨_, _, rfl, by assumption⟩
theorem VRep.tup_inv {l : List PV} {v : Value} (r : VRep prog w h ok (.tup l) v) : ∃ a items, v = .ref a ∧ PlainTup h a items ∧ VAll prog w h ok l items.toList := by
  cases r with | tup hl ha => exact ⟨_, _, rfl, hl, ha⟩
theorem VRep.list_inv {l : List PV} {v : Value} (r : VRep prog w h ok (.list l) v) : ∃ a items, v = .ref a ∧ ok a ∧ h.PlainList a items ∧ VAll prog w h ok l items.toList := by
  cases r with | list hk hl ha => exact ⟨_, _, rfl, hk, hl, ha⟩
theorem VAll.nil_inv {vs : List Value} (r : VAll prog w h ok [] vs) : vs = [] := by cases r; rfl
theorem VAll.nil_inv' {l : List PV} (r : VAll prog w h ok l []) : l = [] := by cases r; rfl
theorem VAll.cons_inv {x : PV} {l : List PV} {vs : List Value} (r : VAll prog w h ok (x :: l) vs) : ∃ v us, vs = v :: us ∧ VRep prog w h ok x v ∧ VAll prog w h ok l us := by
  cases r with | cons a r => exact ⟨_, _, rfl, a, r⟩
theorem VAll.cons_inv' {l : List PV} {v : Value} {us : List Value} (r : VAll prog w h ok l (v :: us)) : ∃ x m, l = x :: m ∧ VRep prog w h ok x v ∧ VAll prog w h ok m us := by
  cases r with | cons a r => exact ⟨_, _, rfl, a, r⟩

noncomputable def isTupObj (o : Obj) : Prop := o.cls = .type "tuple" ∧ ∃ xs n, o.data = .seq xs n
noncomputable def Kp (W : Addr → Prop) (h h' : Heap) : Prop := ∀ a o, h.get? a = some o → (¬ W a ∨ isTupObj o) → h'.get? a = some o
theorem Kp.refl (W : Addr → Prop) (h : Heap) : Kp W h h := fun _ _ e _ => e
theorem Kp.trans {W : Addr → Prop} {h₁ h₂ h₃ : Heap} (a : Kp W h₁ h₂) (b : Kp W h₂ h₃) : Kp W h₁ h₃ := fun x o e k => b x o (a x o e k) k
theorem Kp.mono {W V : Addr → Prop} (s : ∀ a, W a → V a) (k : Kp W h h') : Kp V h h' := fun a o e q => k a o e (q.imp (fun n x => n (s a x)) id)
theorem Kp.of_stays {W : Addr → Prop} (s : h.StaysIn h') : Kp W h h' := fun a o e _ => s a o e

theorem plainTup_kp {W : Addr → Prop} {a : Addr} {items : Array Value} (k : Kp W h h') (x : PlainTup h a items) : PlainTup h' a items := by
  obtain ⟨n, e⟩ := x
  exact ⟨n, k a _ e (.inr ⟨rfl, _, _, rfl⟩)⟩
theorem isTupKey_kp {W : Addr → Prop} {a : Addr} {ks : List Atom} (k : Kp W h h') (x : (tupKind prog w).is h ks a) : (tupKind prog w).is h' ks a := by
  obtain ⟨⟨o, items, n, ho, hc, hd, r⟩, y⟩ := x
  exact ⟨⟨o, items, n, k a o ho (.inr ⟨hc, _, _, hd⟩), hc, hd, r⟩, y.imp fun _ z => plainTup_kp k z⟩

theorem reps_map (hT : ∀ a items, PlainTup h a items → PlainTup h' a items) (hL : ∀ a items, ok a → h.PlainList a items → ok' a ∧ h'.PlainList a items)
    (hD : ∀ a xs, ok a → h.DictOfH (tupKind prog w) a xs → ok' a ∧ h'.DictOfH (tupKind prog w) a xs) (hA : ∀ a xs, ok a → h.DictOf (atomKind prog w) a xs → ok' a ∧ h'.DictOf (atomKind prog w) a xs) :
    (∀ x v, VRep prog w h ok x v → VRep prog w h' ok' x v) ∧ ∀ l vs, VAll prog w h ok l vs → VAll prog w h' ok' l vs :=
  have m1 := fun {l a items} (hl : PlainTup h a items) (_ : VAll prog w h ok l items.toList) (ih : VAll prog w h' ok' l items.toList) => VRep.tup (hT _ _ hl) ih
  have m2 := fun {l a items} (o : ok a) (hl : h.PlainList a items) (_ : VAll prog w h ok l items.toList) (ih : VAll prog w h' ok' l items.toList) => VRep.list (hL _ _ o hl).1 (hL _ _ o hl).2 ih
  have m3 := fun {ks vs : List PV} {a : Addr} (xs : List (List Atom × Addr × Value)) (o : ok a) (hd : h.DictOfH (tupKind prog w) a xs) (hds : (a == sysModules) = false) (e : ks = xs.map fun x => tupPV x.1) (_ : VAll prog w h ok vs (xs.map fun x => x.2.2)) (ih : VAll prog w h' ok' vs (xs.map fun x => x.2.2)) =>
    VRep.dictT xs (hD _ _ o hd).1 (hD _ _ o hd).2 hds e ih
  have m4 := fun {ks vs : List PV} {a : Addr} (xs : List (Atom × Value)) (o : ok a) (hd : h.DictOf (atomKind prog w) a xs) (hds : (a == sysModules) = false) (e : ks = xs.map fun x => atomPV x.1) (_ : VAll prog w h ok vs (xs.map fun x => x.2)) (ih : VAll prog w h' ok' vs (xs.map fun x => x.2)) =>
    VRep.dictA xs (hA _ _ o hd).1 (hA _ _ o hd).2 hds e ih
  ⟨fun _ _ r => VRep.rec (motive_1 := fun x v _ => VRep prog w h' ok' x v) (motive_2 := fun l vs _ => VAll prog w h' ok' l vs) .none .bool .int .str m1 m2 m3 m4 .nil (fun _ _ a r => .cons a r) r,
   fun _ _ r => VAll.rec (motive_1 := fun x v _ => VRep prog w h' ok' x v) (motive_2 := fun l vs _ => VAll prog w h' ok' l vs) .none .bool .int .str m1 m2 m3 m4 .nil (fun _ _ a r => .cons a r) r⟩
theorem reps_kp {W : Addr → Prop} (k : Kp W h h') (s : ∀ a, ok a → ¬ W a ∧ ok' a) : (∀ x v, VRep prog w h ok x v → VRep prog w h' ok' x v) ∧ ∀ l vs, VAll prog w h ok l vs → VAll prog w h' ok' l vs :=
  reps_map (fun _ _ => plainTup_kp k) (fun a _ o hl => ⟨(s a o).2, hl.at fun ob e => k _ ob e (.inl (s a o).1)⟩)
    (fun a _ o hd => ⟨(s a o).2, by obtain ⟨ob, es, ep, ho, h1, h2, h3, h4, h5⟩ := hd; exact ⟨ob, es, ep, k _ ob ho (.inl (s a o).1), h1, h2, h3, fun x hx => isTupKey_kp k (h4 x hx), h5⟩⟩)
    (fun a _ o hd => ⟨(s a o).2, by obtain ⟨ob, es, ep, ho, r⟩ := hd; exact ⟨ob, es, ep, k _ ob ho (.inl (s a o).1), r⟩⟩)
theorem VRep.kp {W : Addr → Prop} (k : Kp W h h') (s : ∀ a, ok a → ¬ W a ∧ ok' a) {x : PV} {v : Value} (r : VRep prog w h ok x v) : VRep prog w h' ok' x v := (reps_kp k s).1 x v r
theorem VAll.kp {W : Addr → Prop} (k : Kp W h h') (s : ∀ a, ok a → ¬ W a ∧ ok' a) {l : List PV} {vs : List Value} (r : VAll prog w h ok l vs) : VAll prog w h' ok' l vs := (reps_kp k s).2 l vs r
theorem VRep.stays (k : h.StaysIn h') (s : ∀ a, ok a → ok' a) {x : PV} {v : Value} (r : VRep prog w h ok x v) : VRep prog w h' ok' x v :=
  r.kp (W := fun _ => False) (Kp.of_stays k) fun a o => ⟨id, s a o⟩
theorem VAll.stays (k : h.StaysIn h') (s : ∀ a, ok a → ok' a) {x : List PV} {v : List Value} (r : VAll prog w h ok x v) : VAll prog w h' ok' x v :=
  r.kp (W := fun _ => False) (Kp.of_stays k) fun a o => ⟨id, s a o⟩
theorem VRep.weaken (s : ∀ a, ok a → ok' a) {x : PV} {v : Value} (r : VRep prog w h ok x v) : VRep prog w h ok' x v := r.stays (fun _ _ e => e) s
theorem VAll.weaken (s : ∀ a, ok a → ok' a) {x : List PV} {v : List Value} (r : VAll prog w h ok x v) : VAll prog w h ok' x v := r.stays (fun _ _ e => e) s

theorem VAll.length {l : List PV} {vs : List Value} (r : VAll prog w h ok l vs) : l.length = vs.length := by
  induction vs generalizing l with
  | nil => cases r; rfl
  | cons v vs ih => cases r with
    | cons a r => simp [ih r]
theorem VAll.append {l m : List PV} {vs us : List Value} (r : VAll prog w h ok l vs) (q : VAll prog w h ok m us) : VAll prog w h ok (l ++ m) (vs ++ us) := by
  induction vs generalizing l with
  | nil => cases r; exact q
  | cons v vs ih => cases r with
    | cons a r => exact .cons a (ih r)
theorem VAll.get {l : List PV} {vs : List Value} (r : VAll prog w h ok l vs) {i : Nat} {x : PV} (e : l[i]? = some x) : ∃ v, vs[i]? = some v ∧ VRep prog w h ok x v := by
  induction vs generalizing l i with
  | nil => cases r; simp at e
  | cons v vs ih => cases r with
    | cons a r =>
      cases i with
      | zero => simp at e; subst e; exact ⟨v, rfl, a⟩
      | succ i => simpa using ih r (by simpa using e)
theorem VAll.get' {l : List PV} {vs : List Value} (r : VAll prog w h ok l vs) {i : Nat} {v : Value} (e : vs[i]? = some v) : ∃ x, l[i]? = some x ∧ VRep prog w h ok x v := by
  induction vs generalizing l i with
  | nil => simp at e
  | cons u vs ih => cases r with
    | cons a r =>
      cases i with
      | zero => simp at e; subst e; exact ⟨_, rfl, a⟩
      | succ i => simpa using ih r (by simpa using e)
theorem VAll.take {l : List PV} {vs : List Value} (r : VAll prog w h ok l vs) (n : Nat) : VAll prog w h ok (l.take n) (vs.take n) := by
  induction vs generalizing l n with
  | nil => cases r; simpa using VAll.nil
  | cons u vs ih => cases r with
    | cons a r =>
      cases n with
      | zero => exact .nil
      | succ n => exact .cons a (ih r n)
theorem VAll.drop {l : List PV} {vs : List Value} (r : VAll prog w h ok l vs) (n : Nat) : VAll prog w h ok (l.drop n) (vs.drop n) := by
  induction vs generalizing l n with
  | nil => cases r; simpa using VAll.nil
  | cons u vs ih => cases r with
    | cons a r =>
      cases n with
      | zero => exact .cons a r
      | succ n => exact ih r n
theorem VAll.reverse {l : List PV} {vs : List Value} (r : VAll prog w h ok l vs) : VAll prog w h ok l.reverse vs.reverse := by
  induction vs generalizing l with
  | nil => cases r; exact .nil
  | cons u vs ih => cases r with
    | cons a r => simpa using (ih r).append (.cons a .nil)

theorem vall_any {P : PV → Bool} (hP : ∀ x v, P x = true → VRep prog w h ok x v → VRep prog w h ok' x v) : ∀ {l : List PV} {vs : List Value}, l.all P = true → VAll prog w h ok l vs → VAll prog w h ok' l vs
  | [], vs, _, r => by rw [r.nil_inv]; exact .nil
  | x :: l, vs, e, r => by
    obtain ⟨v, us, rfl, a, r⟩ := r.cons_inv
    obtain ⟨e1, e2⟩ := two (show (P x && l.all P) = true from e)
    exact .cons (hP _ _ e1 a) (vall_any hP e2 r)
theorem immN_any : ∀ (n : Nat) {x : PV} {v : Value}, immN n x = true → VRep prog w h ok x v → VRep prog w h ok' x v
  | 0, _, _, e, _ => nomatch (show false = true from e)
  | n + 1, x, v, e, r => by
    cases x with
    | none => rw [r.none_inv]; exact .none
    | bool b => rw [r.bool_inv]; exact .bool b
    | int i => obtain ⟨t, rfl⟩ := r.int_inv; exact .int i t
    | str l => obtain ⟨s, t, rfl, e'⟩ := r.str_inv; exact .str s t e'
    | tup l =>
      obtain ⟨a, items, rfl, hl, al⟩ := r.tup_inv
      exact .tup hl (vall_any (fun _ _ => immN_any n) (show l.all (immN n) = true from e) al)
    | list l => exact nomatch (show false = true from e)
    | dict ks vs => exact nomatch (show false = true from e)
theorem imm_any {x : PV} {v : Value} (e : x.imm = true) (r : VRep prog w h ok x v) : VRep prog w h ok' x v := immN_any 6 e r
theorem imms_any {l : List PV} {vs : List Value} (e : PV.imms l = true) (r : VAll prog w h ok l vs) : VAll prog w h ok' l vs := vall_any (fun _ _ => imm_any) e r

theorem PlainTup.inj {a : Addr} {x y : Array Value} (p : PlainTup h a x) (q : PlainTup h a y) : x = y := by
  obtain ⟨n, hd⟩ := p
  obtain ⟨n', hd'⟩ := q
  have e := hd.symm.trans hd'
  cases e; rfl
theorem both_some {o p : Option Bool} {b : Bool} (h : both o p = some b) : ∃ c d, o = some c ∧ p = some d ∧ (c && d) = b := by
  cases o with
  | none => exact noS h
  | some c =>
    cases p with
    | none => exact noS h
    | some d => exact ⟨c, d, rfl, rfl, Option.some.inj h⟩
inductive EqS (f : PV → PV → Option Bool) : PV → PV → Bool → Prop
  | nn : EqS f .none .none true
  | bb (a c : Bool) : EqS f (.bool a) (.bool c) (a == c)
  | ii (a c : Int) : EqS f (.int a) (.int c) (a == c)
  | ss (a c : List Nat) : EqS f (.str a) (.str c) (a == c)
  | tt {l m : List PV} {b : Bool} (h : eqsL f l m = some b) : EqS f (.tup l) (.tup m) b
  | ll {l m : List PV} {b : Bool} (h : (if (l.length == m.length) = true then eqsL f l m else some false) = some b) : EqS f (.list l) (.list m) b
  | ns (a : List Nat) : EqS f .none (.str a) false
  | sn (a : List Nat) : EqS f (.str a) .none false
  | ni (a : Int) : EqS f .none (.int a) false
  | on (a : Int) : EqS f (.int a) .none false
theorem eqN_is {n : Nat} {x y : PV} {b : Bool} (h : eqN (n + 1) x y = some b) : EqS (eqN n) x y b := by
  cases x with
  | none =>
    cases y with
    | none => cases (show some true = some b from h); exact .nn
    | str a => cases (show some false = some b from h); exact .ns a
    | int a => cases (show some false = some b from h); exact .ni a
    | _ => exact noS h
  | bool a =>
    cases y with
    | bool c => cases (show some (a == c) = some b from h); exact .bb a c
    | _ => exact noS h
  | int a =>
    cases y with
    | int c => cases (show some (a == c) = some b from h); exact .ii a c
    | none => cases (show some false = some b from h); exact .on a
    | _ => exact noS h
  | str a =>
    cases y with
    | str c => cases (show some (a == c) = some b from h); exact .ss a c
    | none => cases (show some false = some b from h); exact .sn a
    | _ => exact noS h
  | tup l =>
    cases y with
    | tup m => exact .tt h
    | _ => exact noS h
  | list l =>
    cases y with
    | list m => exact .ll h
    | _ => exact noS h
  | dict => exact noS h
theorem eqsL_self {f : PV → PV → Option Bool} {ok' : Addr → Prop} (hf : ∀ x y v b, VRep prog w h ok x v → VRep prog w h ok' y v → f x y = some b → b = true) : ∀ {l m : List PV} {vs : List Value} {b : Bool}, VAll prog w h ok l vs → VAll prog w h ok' m vs → eqsL f l m = some b → b = true
  | [], m, vs, b, p, q, e => by
    obtain rfl := p.nil_inv
    obtain rfl := q.nil_inv'
    exact (Option.some.inj e).symm
  | x :: l, m, vs, b, p, q, e => by
    obtain ⟨v, us, rfl, a, r⟩ := p.cons_inv
    obtain ⟨y, t, rfl, a', r'⟩ := q.cons_inv'
    obtain ⟨c, d, hc, hd, rfl⟩ := both_some (show both (f x y) (eqsL f l t) = some b from e)
    rw [hf x y v c a a' hc, eqsL_self hf r r' hd]
    rfl
theorem eqN_self : ∀ (n : Nat) {x y : PV} {v : Value} {b : Bool} {ok' : Addr → Prop}, VRep prog w h ok x v → VRep prog w h ok' y v → eqN n x y = some b → b = true
  | 0, _, _, _, _, _, _, _, e => noS e
  | n + 1, x, y, v, b, ok', p, q, e => by
    have hs := eqN_is e
    clear e
    induction hs with
    | nn => rfl
    | bb a c => rw [p.bool_inv] at q; rw [Value.bool.inj q.bool_inv]; exact beq_self_eq_true _
    | ii a c => obtain ⟨_, e1⟩ := p.int_inv; obtain ⟨_, e2⟩ := q.int_inv; rw [(Value.int.inj (e1.symm.trans e2)).1]; exact beq_self_eq_true _
    | ss a c => obtain ⟨_, _, e1, h1⟩ := p.str_inv; obtain ⟨_, _, e2, h2⟩ := q.str_inv; rw [← h1, ← h2, (Value.str.inj (e1.symm.trans e2)).1]; exact beq_self_eq_true _
    | tt h =>
      obtain ⟨_, _, e1, hl, al⟩ := p.tup_inv
      obtain ⟨_, _, e2, hl', al'⟩ := q.tup_inv
      rw [← Value.ref.inj (e1.symm.trans e2)] at hl'
      rw [← PlainTup.inj hl hl'] at al'
      exact eqsL_self (fun x y v b a a' q => eqN_self n a a' q) al al' h
    | ll h =>
      obtain ⟨_, its, e1, _, ⟨k, h1⟩, al⟩ := p.list_inv
      obtain ⟨_, its2, e2, _, ⟨k', h2⟩, al'⟩ := q.list_inv
      rw [← Value.ref.inj (e1.symm.trans e2), h1] at h2
      have ei : its = its2 := by cases h2; rfl
      rw [← ei] at al'
      rw [if_pos (beq_iff_eq.mpr (al.length.trans al'.length.symm))] at h
      exact eqsL_self (fun x y v b a a' q => eqN_self n a a' q) al al' h
    | ns a => obtain ⟨_, _, e, _⟩ := q.str_inv; cases p.none_inv.symm.trans e
    | sn a => obtain ⟨_, _, e, _⟩ := p.str_inv; cases q.none_inv.symm.trans e
    | ni a => obtain ⟨_, e⟩ := q.int_inv; cases p.none_inv.symm.trans e
    | on a => obtain ⟨_, e⟩ := p.int_inv; cases q.none_inv.symm.trans e
end

/-! ### == -/
section
variable {prog : Program} {w : World} {ok ok' : Addr → Prop} {A : Around} {s : Shared}

theorem eqsL_get {f : PV → PV → Option Bool} : ∀ {l m : List PV} {b : Bool}, eqsL f l m = some b →
    ∃ e : Nat → Bool, (∀ j x y, l[j]? = some x → m[j]? = some y → f x y = some (e j)) ∧ b = ((List.range (min l.length m.length)).all e && l.length == m.length)
  | [], [], b, h => ⟨fun _ => true, fun j x y q => noS q, (Option.some.inj h).symm⟩
  | [], _ :: _, b, h => ⟨fun _ => true, fun j x y q => noS q, by cases (show some false = some b from h); simp⟩
  | _ :: _, [], b, h => ⟨fun _ => true, fun j x y _ q => noS q, by cases (show some false = some b from h); simp⟩
  | x :: r, y :: t, b, h => by
    obtain ⟨c, d, hc, hd, rfl⟩ := both_some (show both (f x y) (eqsL f r t) = some b from h)
    obtain ⟨e, he, hb⟩ := eqsL_get hd
    refine ⟨fun j => match j with | 0 => c | j + 1 => e j, ?_, ?_⟩
    · intro j u v hu hv
      cases j with
      | zero => cases hu; cases hv; exact hc
      | succ j => exact he j u v hu hv
    · have hmin : min (x :: r).length (y :: t).length = min r.length t.length + 1 := Nat.add_min_add_right r.length t.length 1
      rw [hmin, List.range_succ_eq_map, List.all_cons, List.all_map, hb]
      have : ((x :: r).length == (y :: t).length) = (r.length == t.length) := by
        show ((r.length + 1) == (t.length + 1)) = _
        rw [Bool.eq_iff_iff]; simp
      rw [this, Bool.and_assoc]
      rfl

theorem pairs_eqAt {n : Nat} {f : PV → PV → Option Bool} {l m : List PV} {its its2 : Array Value} {e : Nat → Bool}
    (hl : VAll prog w s.heap ok l its.toList) (hm : VAll prog w s.heap ok' m its2.toList)
    (he : ∀ j x y, l[j]? = some x → m[j]? = some y → f x y = some (e j))
    (ih : ∀ {x y : PV} {u v : Value} {b : Bool}, VRep prog w s.heap ok x u → VRep prog w s.heap ok' y v → f x y = some b → EqAt A s u v b) :
    ∀ j (h1 : j < its.size) (h2 : j < its2.size), EqAt A s its[j] its2[j] (e j) := by
  intro j h1 h2
  obtain ⟨x, hx, rx⟩ := hl.get' (i := j) (v := its[j]) (by simp [h1])
  obtain ⟨y, hy, ry⟩ := hm.get' (i := j) (v := its2[j]) (by simp [h2])
  exact ih rx ry (he j x y hx hy)

theorem eq_sound : ∀ (n : Nat) {A : Around} {x y : PV} {u v : Value} {b : Bool}, A.units + n < cLine → VRep prog w s.heap ok x u → VRep prog w s.heap ok' y v → eqN n x y = some b → EqAt A s u v b ∧ RcAt A s u v b
  | 0, _, _, _, _, _, _, _, _, _, e => noS e
  | n + 1, A, x, y, u, v, b, hu, p, q, e => by
    have ih : ∀ {x y : PV} {u v : Value} {b : Bool}, VRep prog w s.heap ok x u → VRep prog w s.heap ok' y v → eqN n x y = some b → EqAt A.in1 s u v b :=
      fun p q e => (eq_sound n (A := A.in1) (by show A.units + 1 + n < cLine; (first | lia | omega)) p q e).1
    have key : RcAt A s u v b ∧ (EqAt A s u v b ∨ ∃ l c, u = .ref l ∧ v = .ref c) := by
      have hs := eqN_is e
      clear e
      induction hs with
      | nn => rw [p.none_inv, q.none_inv]; exact ⟨RcAt.none_none, .inl (EqAt.same _)⟩
      | bb a c => rw [p.bool_inv, q.bool_inv]; exact ⟨RcAt.bool_bool a c, .inl (EqAt.bool_bool a c)⟩
      | ii a c => obtain ⟨t, e1⟩ := p.int_inv; obtain ⟨t', e2⟩ := q.int_inv; rw [e1, e2]; exact ⟨RcAt.int_int a t c t', .inl (EqAt.int_int a t c t')⟩
      | ss a c =>
        obtain ⟨a', t, e1, h1⟩ := p.str_inv
        obtain ⟨c', t', e2, h2⟩ := q.str_inv
        rw [e1, e2, ← h1, ← h2, str_beq]
        exact ⟨RcAt.str_str a' t c' t', .inl (EqAt.str_str a' t c' t')⟩
      | tt h =>
        obtain ⟨a, its, e1, hl, al⟩ := p.tup_inv
        obtain ⟨c, its2, e2, hm, am⟩ := q.tup_inv
        obtain ⟨f, hf, hb⟩ := eqsL_get h
        refine ⟨?_, .inr ⟨a, c, e1, e2⟩⟩
        rw [e1, e2, hb, al.length, am.length]
        exact RcAt.tuples (A := A) (e := f) hl.isTuple hm.isTuple (by (first | lia | omega)) (pairs_eqAt (A := A.in1) (n := n) al am hf ih)
      | ll h =>
        obtain ⟨a, its, e1, o, hl, al⟩ := p.list_inv
        obtain ⟨c, its2, e2, o', hm, am⟩ := q.list_inv
        refine ⟨?_, .inr ⟨a, c, e1, e2⟩⟩
        rw [e1, e2]
        have z1 : _ = its.size := al.length
        have z2 : _ = its2.size := am.length
        split at h
        · rename_i hlen
          obtain ⟨f, hf, hb⟩ := eqsL_get h
          have hlen := eq_of_beq hlen
          rw [hb, ← hlen, Nat.min_self, z1, beq_self_eq_true, Bool.and_true]
          exact RcAt.lists (A := A) (e := f) hl.isList hm.isList (by (first | lia | omega)) (by (first | lia | omega)) (pairs_eqAt (A := A.in1) (n := n) al am hf ih)
        · rename_i hlen
          rw [← Option.some.inj h]
          exact RcAt.lists_lengths hl.isList hm.isList (by rw [z1, z2] at hlen; simpa using hlen) (by (first | lia | omega))
      | ns x => obtain ⟨x, t, e2, _⟩ := q.str_inv; rw [p.none_inv, e2]; exact ⟨RcAt.none_str x t, .inl (EqAt.none_str x t)⟩
      | sn x => obtain ⟨x, t, e2, _⟩ := p.str_inv; rw [q.none_inv, e2]; exact ⟨RcAt.str_none x t, .inl (EqAt.str_none x t)⟩
      | ni i => obtain ⟨t, e2⟩ := q.int_inv; rw [p.none_inv, e2]; exact ⟨RcAt.none_int i t, .inl (EqAt.none_int i t)⟩
      | on i => obtain ⟨t, e2⟩ := p.int_inv; rw [q.none_inv, e2]; exact ⟨RcAt.int_none i t, .inl (EqAt.int_none i t)⟩
    refine ⟨key.2.elim id fun ⟨l, c, e1, e2⟩ => ?_, key.1⟩
    by_cases hlc : l = c
    · have huv : u = v := e1.trans ((congrArg Value.ref hlc).trans e2.symm)
      rw [huv] at p ⊢
      rw [eqN_self (n + 1) p q e]
      exact EqAt.same v
    · have hr := key.1
      rw [e1, e2] at hr ⊢
      exact EqAt.of_refs hlc hr
end

end Mine

namespace Mine
open PySem PySem.Calls PyProof.Rows PySem.W PySem.SeqAt
open AutoSeq1 (wpAny_loadPart')
open MeetsSeq MeetsSeq2 MeetsSeq3 SeqRoads2

section
variable {prog : Program} {w : World} {ok ok' : Addr → Prop} {A : Around} {s : Shared}

theorem ne_sound : ∀ (n : Nat) {A : Around} {x y : PV} {u v : Value} {b : Bool}, A.units + n < cLine → VRep prog w s.heap ok x u → VRep prog w s.heap ok' y v → eqN n x y = some b → RcNeAt A s u v (!b)
  | 0, _, _, _, _, _, _, _, _, _, e => noS e
  | n + 1, A, x, y, u, v, b, hu, p, q, e => by
    have ih : ∀ {x y : PV} {u v : Value} {b : Bool}, VRep prog w s.heap ok x u → VRep prog w s.heap ok' y v → eqN n x y = some b → EqAt A.in1 s u v b :=
      fun p q e => (eq_sound n (A := A.in1) (by show A.units + 1 + n < cLine; (first | lia | omega)) p q e).1
    cases eqN_is e with
    | nn => obtain rfl := p.none_inv; obtain rfl := q.none_inv; exact RcNeAt.none_none
    | bb a c => obtain rfl := p.bool_inv; obtain rfl := q.bool_inv; exact RcNeAt.bool_bool a c
    | ii a c => obtain ⟨t, rfl⟩ := p.int_inv; obtain ⟨t', rfl⟩ := q.int_inv; exact RcNeAt.int_int a t c t'
    | ss a c =>
      obtain ⟨a, t, rfl, rfl⟩ := p.str_inv
      obtain ⟨c, t', rfl, rfl⟩ := q.str_inv
      rw [str_beq]
      exact RcNeAt.str_str a t c t'
    | tt h =>
      obtain ⟨a, its, rfl, hl, al⟩ := p.tup_inv
      obtain ⟨c, its2, rfl, hm, am⟩ := q.tup_inv
      obtain ⟨f, hf, hb⟩ := eqsL_get h
      have := RcNeAt.tuples (A := A) (e := f) hl.isTuple hm.isTuple (by (first | lia | omega)) (pairs_eqAt (A := A.in1) (n := n) al am hf ih)
      rw [hb, al.length, am.length]
      exact this
    | ll h =>
      obtain ⟨a, its, rfl, o, hl, al⟩ := p.list_inv
      obtain ⟨c, its2, rfl, o', hm, am⟩ := q.list_inv
      have e1 : _ = its.size := al.length
      have e2 : _ = its2.size := am.length
      split at h
      · rename_i hlen
        obtain ⟨f, hf, hb⟩ := eqsL_get h
        have hlen := eq_of_beq hlen
        have := RcNeAt.lists (A := A) (e := f) hl.isList hm.isList (by (first | lia | omega)) (by (first | lia | omega)) (pairs_eqAt (A := A.in1) (n := n) al am hf ih)
        rw [hb, ← hlen, Nat.min_self, e1, beq_self_eq_true, Bool.and_true]
        exact this
      · rename_i hlen
        cases h
        exact RcNeAt.lists_lengths hl.isList hm.isList (by rw [e1, e2] at hlen; simpa using hlen) (by (first | lia | omega))
    | ns x => obtain rfl := p.none_inv; obtain ⟨x, t, rfl, _⟩ := q.str_inv; exact RcNeAt.none_str x t
    | sn x => obtain rfl := q.none_inv; obtain ⟨x, t, rfl, _⟩ := p.str_inv; exact RcNeAt.str_none x t
    | ni i => obtain rfl := p.none_inv; obtain ⟨t, rfl⟩ := q.int_inv; exact RcNeAt.none_int i t
    | on i => obtain rfl := q.none_inv; obtain ⟨t, rfl⟩ := p.int_inv; exact RcNeAt.int_none i t

/-! ### < -/
noncomputable def LtAt (A : Around) (s : Shared) (y x : Value) (b : Bool) : Prop :=
  ∀ (prog : Program) (w : World) (E : Value → Shared → Prop) (Q : Value → Shared → Prop), Q (.bool b) s → wpAny (model prog w) A (richCompare .Lt y x) Q E s

inductive Lex (A : Around) (s : Shared) : List Value → List Value → Bool → Prop
  | done : Lex A s [] [] false
  | short {y : Value} {ys : List Value} : Lex A s [] (y :: ys) true
  | long {x : Value} {xs : List Value} : Lex A s (x :: xs) [] false
  | same {x y : Value} {xs ys : List Value} {b : Bool} (h : EqAt A.in1 s x y true) (r : Lex A s xs ys b) : Lex A s (x :: xs) (y :: ys) b
  | other {x y : Value} {xs ys : List Value} {b : Bool} (h : EqAt A.in1 s x y false) (l : LtAt A.in1 s x y b) : Lex A s (x :: xs) (y :: ys) b

theorem tuple_ltAt (l b : Addr) (items items2 : Array Value) (n n2 : Nat) (dd dd2 : Option Addr) (sl sl2 : Array (Option Value)) (c : Bool) :
    Meets (Builtin.«tuple.__lt__» ⟨[.ref l, .ref b], []⟩)
      (fun A R s => s.heap.get? l = some { cls := .type "tuple", dict := dd, data := .seq items n, slots := sl } ∧ s.heap.get? b = some { cls := .type "tuple", dict := dd2, data := .seq items2 n2, slots := sl2 } ∧
        Lex A s items.toList items2.toList c ∧ R (.ok (.ret (.bool c))) s) :=
  .of_wp fun prog w A R s h => by
    obtain ⟨hp, g, d, tk, os⟩ := s; obtain ⟨hl, hb, he, h⟩ := h
    have f2 := AutoSeq1.sub_tuple_tuple
    wp_walk using wpAny_loadPart' hl, wpAny_loadPart' hb, wpAny_forIn_list _ (fun rest b s' => b.1 = none ∧ s' = ⟨hp, g, d, tk, os⟩ ∧ ∃ xs ys, rest = xs.zip ys ∧ Lex A ⟨hp, g, d, tk, os⟩ xs ys c ∧
      (xs.length < ys.length ↔ items.size < items2.size)) _
    case turn =>
      rintro ⟨y, x⟩ rest b s' ⟨hb', rfl, xs, ys, hz, hL, hn⟩
      cases hL with
      | done => cases hz
      | short => cases hz
      | long => cases hz
      | same hq r =>
        simp only [List.zip_cons_cons, List.cons.injEq, Prod.mk.injEq] at hz
        obtain ⟨⟨rfl, rfl⟩, rfl⟩ := hz
        refine wpAny_bind (hq prog w _ _ ?_)
        wp_walk
        exact ⟨rfl, rfl, _, _, rfl, r, by simpa using hn⟩
      | other hq lt =>
        simp only [List.zip_cons_cons, List.cons.injEq, Prod.mk.injEq] at hz
        obtain ⟨⟨rfl, rfl⟩, rfl⟩ := hz
        refine wpAny_bind (hq prog w _ _ ?_)
        simp only [Bool.not_false, if_true]
        refine wpAny_bind (wpAny_rule ?_)
        refine wpAny_bind (lt prog w _ _ ?_)
        wp_walk
        exact ⟨_, rfl, h⟩
    case fin =>
      rintro ⟨b1, b2⟩ s' ⟨hb', rfl, xs, ys, hz, hL, hn⟩
      simp only at hb'
      subst hb'
      have hc : c = decide (items.size < items2.size) := by
        cases hL with
        | done => simp at hn; simp; omega
        | short => simp at hn; simp [hn]
        | long => simp at hn; simp; omega
        | same => cases hz
        | other => cases hz
      wp_walk
      exact ⟨_, rfl, by simpa [Builtin.Tuple.tupleCompareSizes, ← hc] using h⟩
    case h =>
      exact ⟨rfl, rfl, _, _, rfl, he, by simp⟩

theorem lt_tupleAt {l b : Addr} {items items2 : Array Value} {c : Bool} (hl : s.heap.IsTuple l items) (hb : s.heap.IsTuple b items2) (hu : A.units < cLine)
    (he : Lex A s items.toList items2.toList c) : LtAt A s (.ref l) (.ref b) c := fun prog w E Q h => by
  obtain ⟨⟨cls, dd, data, sl⟩, ho, hc, n, hd⟩ := id hl
  obtain ⟨⟨cls2, dd2, data2, sl2⟩, ho2, hc2, n2, hd2⟩ := id hb
  simp only at hc hd hc2 hd2
  subst hc hd hc2 hd2
  exact richCompare_meets_room (op := .Lt) ⟨_, ho, rfl⟩ ⟨_, ho2, rfl⟩ F.slot_tuple_lt F.entry_tuple_lt (F.args_tuple_lt_2 _ _) (tuple_ltAt l b items items2 n n2 dd dd2 sl sl2 c)
    ⟨ho, ho2, he, show Value.bool c ≠ Value.notImplemented ∧ Q (.bool c) s from ⟨(fun x => nomatch x), h⟩⟩ hu

theorem lex_of {n : Nat} (hu : A.units + 1 + n < cLine) (ih : ∀ {x y : PV} {u v : Value} {b : Bool}, VRep prog w s.heap ok x u → VRep prog w s.heap ok' y v → ltN n x y = some b → LtAt A.in1 s u v b) :
    ∀ {l m : List PV} {us vs : List Value} {b : Bool}, VAll prog w s.heap ok l us → VAll prog w s.heap ok' m vs → ltsL (eqN n) (ltN n) l m = some b → Lex A s us vs b
  | [], m, us, vs, b, p, q, e => by
    obtain rfl := p.nil_inv
    cases m with
    | nil => obtain rfl := q.nil_inv; cases (show some false = some b from e); exact .done
    | cons y m => obtain ⟨_, _, rfl, _, _⟩ := q.cons_inv; cases (show some true = some b from e); exact .short
  | x :: l, m, us, vs, b, p, q, e => by
    obtain ⟨u, us, rfl, p, r⟩ := p.cons_inv
    cases m with
    | nil => obtain rfl := q.nil_inv; cases (show some false = some b from e); exact .long
    | cons y m =>
      obtain ⟨v, vs, rfl, q, t⟩ := q.cons_inv
      have e : ltStep (eqN n x y) (ltN n x y) (ltsL (eqN n) (ltN n) l m) = some b := e
      cases h : eqN n x y with
      | none => rw [h] at e; exact noS e
      | some c =>
        rw [h] at e
        have := (eq_sound n (A := A.in1) hu p q h).1
        cases c with
        | true => exact .same this (lex_of hu ih r t e)
        | false => exact .other this (ih p q e)

theorem lt_sound : ∀ (n : Nat) {A : Around} {x y : PV} {u v : Value} {b : Bool}, A.units + n < cLine → VRep prog w s.heap ok x u → VRep prog w s.heap ok' y v → ltN n x y = some b → LtAt A s u v b
  | 0, _, _, _, _, _, _, _, _, _, e => noS e
  | n + 1, A, x, y, u, v, b, hu, p, q, e => by
    have ih : ∀ {x y : PV} {u v : Value} {b : Bool}, VRep prog w s.heap ok x u → VRep prog w s.heap ok' y v → ltN n x y = some b → LtAt A.in1 s u v b :=
      fun p q e => lt_sound n (A := A.in1) (by show A.units + 1 + n < cLine; (first | lia | omega)) p q e
    cases x with
    | int a =>
      cases y with
      | int c =>
        obtain ⟨t, rfl⟩ := p.int_inv; obtain ⟨t', rfl⟩ := q.int_inv
        cases (show some (decide (a < c)) = some b from e)
        exact fun prog w E Q h => wpAny_lt_int h
      | _ => exact noS e
    | tup l =>
      cases y with
      | tup m =>
        obtain ⟨a, its, rfl, hl, al⟩ := p.tup_inv
        obtain ⟨c, its2, rfl, hm, am⟩ := q.tup_inv
        exact lt_tupleAt hl.isTuple hm.isTuple (by (first | lia | omega)) (lex_of (by (first | lia | omega)) ih al am e)
      | _ => exact noS e
    | _ => exact noS e
end
end Mine

namespace Mine
open PySem PySem.Calls PyProof.Rows PySem.W PySem.SeqAt
open AutoSeq1 (wpAny_loadPart')
open MeetsSeq MeetsSeq2 MeetsSeq3 SeqRoads2

section
variable (prog : Program) (w : World) (A : Around) (s : Shared)
noncomputable def Gets (t : Sem Value) (Ok : (Addr → Prop) → Prop) (v : PV) : Prop :=
  ∀ (E : Value → Shared → Prop) (Q : Value → Shared → Prop),
    (∀ cv h' tk, s.heap.StaysIn h' → (∀ ok, Ok ok → VRep prog w h' ok v cv) → Q cv { s with heap := h', toks := tk }) → wpAny (model prog w) A t Q E s
noncomputable def FreshOk (Ok : (Addr → Prop) → Prop) : Prop := ∀ ok, Ok ok → ∀ b, s.heap.get? b = none → ok b
end

noncomputable def VIt (prog : Program) (w : World) (h : Heap) (ok : Addr → Prop) (x : PV) (v : Value) : Prop := match x with
  | .list l => ∃ a items, v = .ref a ∧ h.PlainList a items ∧ VAll prog w h ok l items.toList
  | x => VRep prog w h ok x v

section
variable {prog : Program} {w : World} {A : Around} {s : Shared} {Ok : (Addr → Prop) → Prop} {h : Heap} {ok ok' : Addr → Prop}
theorem VRep.it {x : PV} {v : Value} (r : VRep prog w h ok x v) : VIt prog w h ok x v := by
  cases r with
  | list o hl a => exact ⟨_, _, rfl, hl, a⟩
  | none => exact .none
  | bool b => exact .bool b
  | int i t => exact .int i t
  | str s t e => exact .str s t e
  | tup hl a => exact .tup hl a
  | dictT xs o hd n e a => exact .dictT xs o hd n e a
  | dictA xs o hd n e a => exact .dictA xs o hd n e a
theorem VRep.it_ok {x : PV} {v : Value} (r : VRep prog w h ok x v) (e : okItems x = true) (hd : ∀ ks vs, x ≠ .dict ks vs) : VIt prog w h ok' x v := by
  cases r with
  | list o hl a => exact ⟨_, _, rfl, hl, imms_any e a⟩
  | none => exact .none
  | bool b => exact .bool b
  | int i t => exact .int i t
  | str s t e' => exact .str s t e'
  | tup hl a => exact .tup hl (imms_any e a)
  | dictT => exact absurd rfl (hd _ _)
  | dictA => exact absurd rfl (hd _ _)

theorem fresh_none (h : Heap) : h.get? h.objs.size = none := by
  cases e : h.get? h.objs.size with
  | none => rfl
  | some o => exact absurd (Heap.lt_size e) (Nat.lt_irrefl _)
theorem stays_push (h : Heap) (o : Obj) : h.StaysIn (h.push o) := fun _ _ e => Heap.get?_push_of_some _ e
theorem stays_refl (h : Heap) : h.StaysIn h := fun _ _ e => e
theorem stays_trans {h₁ h₂ h₃ : Heap} (a : h₁.StaysIn h₂) (b : h₂.StaysIn h₃) : h₁.StaysIn h₃ := fun x o e => b x o (a x o e)

theorem Gets.int {t : Sem Value} {i : Int} (hg : ∀ (E : Value → Shared → Prop) (Q : Value → Shared → Prop), (∀ u tk, Q (.int i u) { s with toks := tk }) → wpAny (model prog w) A t Q E s) : Gets prog w A s t Ok (.int i) :=
  fun E Q h => hg E Q fun u tk => h _ s.heap tk (stays_refl _) fun _ _ => .int i u
theorem Gets.bool {t : Sem Value} {b : Bool} (hg : ∀ (E : Value → Shared → Prop) (Q : Value → Shared → Prop), Q (.bool b) s → wpAny (model prog w) A t Q E s) : Gets prog w A s t Ok (.bool b) :=
  fun E Q h => hg E Q (h _ s.heap s.toks (stays_refl _) fun _ _ => .bool b)
theorem Gets.newList {t : Sem Value} {l : List PV} {items : Array Value} (hf : FreshOk s Ok) (ha : ∀ ok, Ok ok → VAll prog w s.heap ok l items.toList)
    (hg : ∀ (E : Value → Shared → Prop) (Q : Value → Shared → Prop), Q (.ref s.heap.objs.size) { s with heap := s.heap.push { cls := .type "list", data := .seq items } } → wpAny (model prog w) A t Q E s) : Gets prog w A s t Ok (.list l) :=
  fun E Q h => hg E Q (h _ _ s.toks (stays_push _ _) fun ok o => .list (hf ok o _ (fresh_none _)) ⟨0, Heap.get?_push_size _ rfl⟩ ((ha ok o).stays (stays_push _ _) fun _ x => x))
theorem Gets.newTup {t : Sem Value} {l : List PV} {items : Array Value} (ha : ∀ ok, Ok ok → VAll prog w s.heap ok l items.toList)
    (hg : ∀ (E : Value → Shared → Prop) (Q : Value → Shared → Prop), Q (.ref s.heap.objs.size) { s with heap := s.heap.push { cls := .type "tuple", data := .seq items } } → wpAny (model prog w) A t Q E s) : Gets prog w A s t Ok (.tup l) :=
  fun E Q h => hg E Q (h _ _ s.toks (stays_push _ _) fun ok o => .tup ⟨0, Heap.get?_push_size _ rfl⟩ ((ha ok o).stays (stays_push _ _) fun _ x => x))

theorem szOk_le {n : Nat} (h : szOk n = true) : n ≤ sizeLine := by
  have : n ≤ 1000000 := by simpa [szOk] using h
  rw [sizeLine_eq]; (first | lia | omega)

theorem VIt.lists {l : List PV} {v : Value} (hT : Ok fun _ => True) (r : ∀ ok, Ok ok → VIt prog w h ok (.list l) v) :
    ∃ a items, v = .ref a ∧ h.PlainList a items ∧ ∀ ok, Ok ok → VAll prog w h ok l items.toList := by
  obtain ⟨a, items, rfl, hl, _⟩ := r _ hT
  refine ⟨a, items, rfl, hl, fun ok o => ?_⟩
  obtain ⟨a', items', e, hl', ha'⟩ := r ok o
  cases e
  obtain ⟨n, e1⟩ := hl
  obtain ⟨n', e2⟩ := hl'
  rw [e1] at e2; cases e2
  exact ha'
theorem VIt.tups {l : List PV} {v : Value} (hT : Ok fun _ => True) (r : ∀ ok, Ok ok → VIt prog w h ok (.tup l) v) :
    ∃ a items, v = .ref a ∧ PlainTup h a items ∧ ∀ ok, Ok ok → VAll prog w h ok l items.toList := by
  cases r _ hT with
  | @tup _ a items hl _ =>
    refine ⟨a, items, rfl, hl, fun ok o => ?_⟩
    cases r ok o with
    | tup hl' ha' =>
      have := PlainTup.inj hl hl'
      subst this
      exact ha'

theorem smallI_bounds {a : Int} (h : smallI a = true) : -(2 ^ 62 : Int) < a ∧ a < 2 ^ 62 := by
  simpa [smallI] using h
theorem intBits_small {a : Int} (h : smallI a = true) : Builtin.Int.intBits a ≤ 64 := by
  have hb := smallI_bounds h
  have hz : a.natAbs < 2 ^ 62 := by (first | lia | omega)
  unfold Builtin.Int.intBits
  split
  · (first | lia | omega)
  · rename_i hne
    have hne' : a ≠ 0 := by simpa using hne
    have : a.natAbs.log2 < 62 := (Nat.log2_lt (by (first | lia | omega))).mpr hz
    (first | lia | omega)
theorem noPylong {a b : Int} (h : smallI b = true) : Builtin.divisionGoesByPylong a b = false := by
  have hb := smallI_bounds h
  unfold Builtin.divisionGoesByPylong
  have hz : b.natAbs < 2 ^ 62 := by (first | lia | omega)
  have hd : (if b == 0 then 0 else b.natAbs.log2 / 30 + 1) ≤ 300 := by
    split
    · (first | lia | omega)
    · rename_i hne
      have hne' : b ≠ 0 := by simpa using hne
      have : b.natAbs.log2 < 62 := (Nat.log2_lt (by (first | lia | omega))).mpr hz
      (first | lia | omega)
  simp only [Bool.and_eq_false_iff, decide_eq_false_iff_not]
  exact .inl (by (first | lia | omega))

theorem intPs_some {a b : PV} {f : Int → Int → Option PV} {v : PV} (e : intPs a b f = some v) : ∃ i j, a = .int i ∧ b = .int j ∧ f i j = some v := by
  obtain ⟨i, hi, e⟩ := bnd e
  obtain ⟨j, hj, e⟩ := bnd e
  exact ⟨i, j, intP_eq hi, intP_eq hj, e⟩
theorem add_tups {l m : List PV} {ca cb : Value} (hT : Ok fun _ => True) (hz : szOk (l.length + m.length) = true)
    (ra : ∀ ok, Ok ok → VIt prog w s.heap ok (.tup l) ca) (rb : ∀ ok, Ok ok → VIt prog w s.heap ok (.tup m) cb) : Gets prog w A s (binaryOp .Add ca cb) Ok (.tup (l ++ m)) := by
  obtain ⟨la, its, rfl, ⟨n, hl⟩, a1⟩ := VIt.tups hT ra
  obtain ⟨lb, its2, rfl, ⟨n2, hl2⟩, a2⟩ := VIt.tups hT rb
  have hz' := szOk_le hz
  have e1 : l.length = its.size := (a1 _ hT).length
  have e2 : m.length = its2.size := (a2 _ hT).length
  by_cases h1 : its.isEmpty = true
  · have hx : its = #[] := by simpa using h1
    subst hx
    obtain rfl := List.length_eq_zero_iff.mp e1
    intro E Q q
    refine concat_meets ⟨_, hl, rfl⟩ ⟨_, hl2, rfl⟩ noFill_tuple_add seq_tuple_add F.slot_tuple_add F.entry_tuple_add (F.args_tuple_add_2 _ _) (AutoSeq1.tuple___add___tuple_tuple_0 la #[] n lb its2 n2 (by simp)) ⟨hl, hl2, ?_⟩
    exact q _ s.heap s.toks (stays_refl _) fun ok o => .tup ⟨n2, hl2⟩ (a2 ok o)
  · by_cases h2 : its2.isEmpty = true
    · have hx : its2 = #[] := by simpa using h2
      subst hx
      obtain rfl := List.length_eq_zero_iff.mp e2
      intro E Q q
      refine concat_meets ⟨_, hl, rfl⟩ ⟨_, hl2, rfl⟩ noFill_tuple_add seq_tuple_add F.slot_tuple_add F.entry_tuple_add (F.args_tuple_add_2 _ _) (AutoSeq1.tuple___add___tuple_tuple_1 la its n lb #[] n2 h1 (by simp)) ⟨hl, hl2, ?_⟩
      refine q _ s.heap s.toks (stays_refl _) fun ok o => ?_
      rw [List.append_nil]
      exact .tup ⟨n, hl⟩ (a1 ok o)
    · refine .newTup (items := its ++ its2) (fun ok o => by rw [Array.toList_append]; exact (a1 ok o).append (a2 ok o)) fun E Q q => ?_
      exact PySem.P.add_tuple hl hl2 h1 h2 q (by rw [e1, e2] at hz'; exact hz')
theorem add_lists {l m : List PV} {ca cb : Value} (hT : Ok fun _ => True) (hf : FreshOk s Ok) (hz : szOk (l.length + m.length) = true)
    (ra : ∀ ok, Ok ok → VIt prog w s.heap ok (.list l) ca) (rb : ∀ ok, Ok ok → VIt prog w s.heap ok (.list m) cb) : Gets prog w A s (binaryOp .Add ca cb) Ok (.list (l ++ m)) := by
  obtain ⟨la, its, rfl, ⟨n, hl⟩, a1⟩ := VIt.lists hT ra
  obtain ⟨lb, its2, rfl, ⟨n2, hl2⟩, a2⟩ := VIt.lists hT rb
  have hz' := szOk_le hz
  have e1 : l.length = its.size := (a1 _ hT).length
  have e2 : m.length = its2.size := (a2 _ hT).length
  refine .newList (items := its ++ its2) hf (fun ok o => by rw [Array.toList_append]; exact (a1 ok o).append (a2 ok o)) fun E Q q => ?_
  exact PySem.P.add_list hl hl2 q (by rw [e1, e2] at hz'; exact hz')
theorem add_sound {a b v : PV} {ca cb : Value} (hT : Ok fun _ => True) (hf : FreshOk s Ok) (e : addP a b = some v)
    (ra : ∀ ok, Ok ok → VIt prog w s.heap ok a ca) (rb : ∀ ok, Ok ok → VIt prog w s.heap ok b cb) : Gets prog w A s (binaryOp .Add ca cb) Ok v := by
  cases a with
  | int i =>
    obtain ⟨j, hj, e⟩ := bnd (show (intP b).bind (fun j => some (PV.int (i + j))) = some v from e)
    obtain rfl := intP_eq hj
    obtain ⟨t, rfl⟩ := VRep.int_inv (ra _ hT); obtain ⟨u, rfl⟩ := VRep.int_inv (rb _ hT)
    cases e
    exact .int fun E Q q => PyProof.Rows.add_int (q _ _)
  | tup l =>
    obtain ⟨m, hm, e⟩ := bnd (show (tupL b).bind (fun m => if szOk (l.length + m.length) = true then some (PV.tup (l ++ m)) else none) = some v from e)
    obtain rfl := tupL_eq hm
    obtain ⟨hz, rfl⟩ := ifS e
    exact add_tups hT hz ra rb
  | list l =>
    obtain ⟨m, hm, e⟩ := bnd (show (listL b).bind (fun m => if szOk (l.length + m.length) = true then some (PV.list (l ++ m)) else none) = some v from e)
    obtain rfl := listL_eq hm
    obtain ⟨hz, rfl⟩ := ifS e
    exact add_lists hT hf hz ra rb
  | _ => exact noS e
theorem mul_sound {a b v : PV} {ca cb : Value} (hT : Ok fun _ => True) (hf : FreshOk s Ok) (e : mulP a b = some v)
    (ra : ∀ ok, Ok ok → VIt prog w s.heap ok a ca) (rb : ∀ ok, Ok ok → VIt prog w s.heap ok b cb) : Gets prog w A s (binaryOp .Mult ca cb) Ok v := by
  cases a with
  | int i =>
    obtain ⟨j, hj, e⟩ := bnd (show (intP b).bind (fun j => if smallI i = true then some (PV.int (i * j)) else none) = some v from e)
    obtain rfl := intP_eq hj
    obtain ⟨t, rfl⟩ := VRep.int_inv (ra _ hT); obtain ⟨u, rfl⟩ := VRep.int_inv (rb _ hT)
    obtain ⟨hs, rfl⟩ := ifS e
    exact .int fun E Q q => PyProof.Rows.mul_int (q _ _) (IntMulOk.of_left (intBits_small hs))
  | _ => exact noS e

theorem bin_sound {op : Operator} {a b v : PV} {ca cb : Value} (hT : Ok fun _ => True) (hf : FreshOk s Ok) (e : evalBin op a b = some v)
    (ra : ∀ ok, Ok ok → VIt prog w s.heap ok a ca) (rb : ∀ ok, Ok ok → VIt prog w s.heap ok b cb) : Gets prog w A s (binaryOp op ca cb) Ok v := by
  cases op with
  | Add => exact add_sound hT hf e ra rb
  | Mult => exact mul_sound hT hf e ra rb
  | Sub =>
    obtain ⟨i, j, rfl, rfl, e⟩ := intPs_some e
    obtain ⟨t, rfl⟩ := VRep.int_inv (ra _ hT); obtain ⟨u, rfl⟩ := VRep.int_inv (rb _ hT)
    cases e
    exact .int fun E Q q => PyProof.Rows.sub_int (q _ _)
  | FloorDiv =>
    obtain ⟨i, j, rfl, rfl, e⟩ := intPs_some e
    obtain ⟨t, rfl⟩ := VRep.int_inv (ra _ hT); obtain ⟨u, rfl⟩ := VRep.int_inv (rb _ hT)
    obtain ⟨hs, rfl⟩ := ifS e
    obtain ⟨hs, h3⟩ := two hs
    have h2 := of_decide_eq_true (two hs).2
    refine .int fun E Q q => PyProof.Rows.floordiv_int (Int.ne_of_gt h2) ?_ (.inl (noPylong h3))
    rw [Int.fdiv_eq_ediv_of_nonneg _ (Int.le_of_lt h2)]
    exact q s.toks (s.toks + 1)
  | Mod =>
    obtain ⟨i, j, rfl, rfl, e⟩ := intPs_some e
    obtain ⟨t, rfl⟩ := VRep.int_inv (ra _ hT); obtain ⟨u, rfl⟩ := VRep.int_inv (rb _ hT)
    obtain ⟨hs, rfl⟩ := ifS e
    have h2 := of_decide_eq_true hs
    refine .int fun E Q q => PyProof.Rows.mod_int' (Int.ne_of_gt h2) ?_
    rw [Int.fmod_eq_emod_of_nonneg _ (Int.le_of_lt h2)]
    exact q _ _
  | _ => exact noS e
end
end Mine

namespace Mine
open PySem PySem.Calls PyProof.Rows PySem.W PySem.SeqAt
open AutoSeq1 (wpAny_loadPart')
open MeetsSeq MeetsSeq2 MeetsSeq3 SeqRoads2

section
variable {prog : Program} {w : World} {A : Around} {s : Shared} {Ok : (Addr → Prop) → Prop}

theorem subTail {value slice : Expr} {o i : Value} {T id : String} {v : PV} (hT : s.TypeIs o T) (hl : typeLookup (.type T) "__getitem__" = pure (some (.builtin id)))
    (hg : Gets prog w A s (getItem o i) Ok v) : Gets prog w A s (subscriptTail value slice o i) Ok v := by
  intro E Q q
  unfold subscriptTail
  refine wpAny_bind ?_
  rw [getitemInPython_of_ne hT.not_modules]
  refine wpAny_bind (wpAny_specialOf hT hl ?_)
  have fin : wpAny (model prog w) A (subscripted slice false o i) (fun r s₃ => wpAny (model prog w) A (letTemporaryGo value o r >>= fun _ => pure r) Q E s₃) E s := by
    have one : ∀ ops, wpAny (model prog w) A (operate ops (getItem o i)) (fun r s₃ => wpAny (model prog w) A (letTemporaryGo value o r >>= fun _ => pure r) Q E s₃) E s := fun ops =>
      wpAny_operating (hg E _ fun cv h' tk st r => wpAny_bind (wpAny_letTemporaryGo (wpAny_pure (q cv h' tk st r))))
    unfold subscripted
    split
    · exact one _
    · rename_i h; cases h
    · exact one _
  first
    | exact wpAny_pure (wpAny_bind fin)
    | exact wpAny_bind (wpAny_pure (wpAny_bind fin))
    | exact wpAny_bind fin

theorem Gets.have {t : Sem Value} {v : PV} {cv : Value} (r : ∀ ok, Ok ok → VRep prog w s.heap ok v cv) (hg : ∀ (E : Value → Shared → Prop) (Q : Value → Shared → Prop), Q cv s → wpAny (model prog w) A t Q E s) : Gets prog w A s t Ok v :=
  fun E Q q => hg E Q (q cv s.heap s.toks (stays_refl _) r)
theorem Gets.tok {t : Sem Value} {v : PV} {cv : Value} (r : ∀ ok, Ok ok → VRep prog w s.heap ok v cv) (hg : ∀ (E : Value → Shared → Prop) (Q : Value → Shared → Prop), (∀ tk, Q cv { s with toks := tk }) → wpAny (model prog w) A t Q E s) : Gets prog w A s t Ok v :=
  fun E Q q => hg E Q fun tk => q cv s.heap tk (stays_refl _) r

theorem getAll {l : List PV} {vs : List Value} (hT : Ok fun _ => True) (r : ∀ ok, Ok ok → VAll prog w s.heap ok l vs) {i : Nat} {x : PV} (e : l[i]? = some x) :
    ∃ v, vs[i]? = some v ∧ ∀ ok, Ok ok → VRep prog w s.heap ok x v := by
  obtain ⟨v, hv, _⟩ := (r _ hT).get e
  refine ⟨v, hv, fun ok o => ?_⟩
  obtain ⟨v', hv', hr⟩ := (r ok o).get e
  rw [hv] at hv'; cases hv'
  exact hr

theorem nth_some {l : List PV} {i : Int} {x : PV} (e : nth l i = some x) : ∃ k, seqIndex? i l.length = some k ∧ l[k]? = some x := by
  unfold nth at e
  cases h : seqIndex? i l.length with
  | none => rw [h] at e; cases e
  | some k => rw [h] at e; exact ⟨k, rfl, e⟩

theorem getItem_list_sound {l : List PV} {i : Int} {x : PV} {c : Value} {t : Tok} (hT : Ok fun _ => True) (hs : smallI i = true) (r : ∀ ok, Ok ok → VIt prog w s.heap ok (.list l) c) (e : nth l i = some x) :
    Gets prog w A s (getItem c (.int i t)) Ok x ∧ s.TypeIs c "list" := by
  obtain ⟨a, items, rfl, hl, ha⟩ := VIt.lists hT r
  have hb := smallI_bounds hs
  obtain ⟨k, hk, hx⟩ := nth_some e
  obtain ⟨v, hv, hr⟩ := getAll hT ha hx
  have hlen := (ha _ hT).length
  simp only [Array.length_toList] at hlen
  refine ⟨.have hr fun E Q q => ?_, hl.isList.typeIs⟩
  unfold seqIndex? at hk
  rw [hlen] at hk
  by_cases h0 : i < 0
  · simp only [if_pos h0] at hk
    split at hk
    · rename_i hh
      cases hk
      simp only [Bool.and_eq_true, decide_eq_true_eq] at hh
      exact wpAny_getItem_list_neg hl.isList h0 (by (first | lia | omega)) (by (first | lia | omega)) (by simpa using hv) q
    · cases hk
  · simp only [if_neg h0] at hk
    split at hk
    · cases hk
      exact wpAny_getItem_list hl.isList (by (first | lia | omega)) (by (first | lia | omega)) (by simpa using hv) q
    · cases hk

theorem getItem_tup_sound {l : List PV} {i : Int} {x : PV} {c : Value} {t : Tok} (hT : Ok fun _ => True) (hs : smallI i = true) (r : ∀ ok, Ok ok → VIt prog w s.heap ok (.tup l) c) (e : nth l i = some x) :
    Gets prog w A s (getItem c (.int i t)) Ok x ∧ s.TypeIs c "tuple" := by
  obtain ⟨a, items, rfl, ⟨n, hl⟩, ha⟩ := VIt.tups hT r
  have hb := smallI_bounds hs
  obtain ⟨k, hk, hx⟩ := nth_some e
  obtain ⟨v, hv, hr⟩ := getAll hT ha hx
  have hlen := (ha _ hT).length
  simp only [Array.length_toList] at hlen
  rw [hlen] at hk
  exact ⟨.have hr fun E Q q => PySem.P.getItem_tuple hl (by (first | lia | omega)) (by (first | lia | omega)) hk (by simpa using hv) q, ⟨_, hl, rfl⟩⟩

theorem atKey_get {K : Type} [DecidableEq K] : ∀ {xs : List (K × Addr × Value)} {k : K} {f : K → PV} (hf : ∀ a b, f a = f b → a = b) {vs : List PV} {h : Heap} {ok : Addr → Prop} (r : VAll prog w h ok vs (xs.map fun x => x.2.2)) {o : Option PV},
    (∀ a b c, PV.eq (f a) (f b) = some c → (c = true ↔ a = b)) → getD2 (f k) (xs.map fun x => f x.1) vs = some o →
    match o with | some v => ∃ p, atKey xs k = some p ∧ VRep prog w h ok v p.2 | none => atKey xs k = none
  | [], k, f, hf, vs, h, ok, r, o, he, e => by
    cases (show some none = some o from e); rfl
  | (a, p) :: xs, k, f, hf, vs, h, ok, r, o, he, e => by
    cases r with | cons rv rr =>
    simp only [List.map_cons, getD2] at e
    cases hq : PV.eq (f a) (f k) with
    | none => rw [hq] at e; cases e
    | some c =>
      rw [hq] at e
      have hc := he a k c hq
      cases c with
      | true =>
        have hak : a = k := hc.mp rfl
        simp only [List.head?_cons, Option.map_some, Option.some.injEq] at e
        subst e
        exact ⟨p, by simp [atKey, hak], rv⟩
      | false =>
        have hak : ¬ a = k := fun h => by have := hc.mpr h; cases this
        have ih := atKey_get hf rr he e
        have hk' : atKey ((a, p) :: xs) k = atKey xs k := by simp [atKey, hak]
        rw [hk']
        exact ih

theorem eqsL_true {f : PV → PV → Option Bool} (hf : ∀ x y c, f x y = some c → (c = true ↔ x = y)) : ∀ {l m : List PV} {c : Bool}, eqsL f l m = some c → (c = true ↔ l = m)
  | [], [], c, h => by cases (show some true = some c from h); exact ⟨fun _ => rfl, fun _ => rfl⟩
  | [], _ :: _, c, h => by cases (show some false = some c from h); exact ⟨nofun, nofun⟩
  | _ :: _, [], c, h => by cases (show some false = some c from h); exact ⟨nofun, nofun⟩
  | x :: r, y :: t, c, h => by
    obtain ⟨d, d2, q, q2, rfl⟩ := both_some (show both (f x y) (eqsL f r t) = some c from h)
    rw [Bool.and_eq_true, hf x y d q, eqsL_true hf q2, List.cons.injEq]
theorem eqN_true : ∀ (n : Nat) (x y : PV) (c : Bool), eqN n x y = some c → (c = true ↔ x = y)
  | 0, _, _, _, e => noS e
  | n + 1, x, y, c, e => by
    cases eqN_is e with
    | nn => exact ⟨fun _ => rfl, fun _ => rfl⟩
    | bb a b => rw [beq_iff_eq, PV.bool.injEq]
    | ii a b => rw [beq_iff_eq, PV.int.injEq]
    | ss a b => rw [beq_iff_eq, PV.str.injEq]
    | tt h => rw [eqsL_true (eqN_true n) h, PV.tup.injEq]
    | ll h =>
      split at h
      · rw [eqsL_true (eqN_true n) h, PV.list.injEq]
      · rename_i hne
        cases h
        exact ⟨nofun, fun q => by cases q; exact absurd (beq_self_eq_true _) hne⟩
    | _ => exact ⟨nofun, nofun⟩
theorem eq_true {x y : PV} {c : Bool} (e : PV.eq x y = some c) : c = true ↔ x = y := eqN_true 6 x y c e
end
end Mine

namespace Mine
open PySem PySem.Calls PyProof.Rows PySem.W PySem.SeqAt
open AutoSeq1 (wpAny_loadPart')
open MeetsSeq MeetsSeq2 MeetsSeq3 SeqRoads2

section
variable {prog : Program} {w : World} {A : Around} {s : Shared} {Ok : (Addr → Prop) → Prop} {h : Heap}

theorem atomIs_int (i : Int) (t : Tok) : (atomKind prog w).is (.int i) (.int i t) = true := by simp [atomKind, Atom.is, Value.isInt]
theorem atomIs_str (y : Str) (t : Tok) : (atomKind prog w).is (.str y) (.str y t) = true := by simp [atomKind, Atom.is, Value.isStrOf]
theorem items_are : ∀ {l : List PV} {vs : List Value} {ok : Addr → Prop}, l.all isAtom = true → VAll prog w h ok l vs → ∃ ks : List Atom, l = ks.map atomPV ∧ ItemsAre (atomKind prog w) ks vs
  | [], vs, _, _, r => by rw [r.nil_inv]; exact ⟨[], rfl, .nil⟩
  | x :: l, vs, ok, e, r => by
    obtain ⟨v, us, rfl, r1, rr⟩ := r.cons_inv
    obtain ⟨e1, e2⟩ := two (show (isAtom x && l.all isAtom) = true from e)
    obtain ⟨ks, rfl, hk⟩ := items_are e2 rr
    cases x with
    | int i => obtain ⟨t, rfl⟩ := r1.int_inv; exact ⟨.int i :: ks, rfl, .cons (atomIs_int i t) hk⟩
    | str y => obtain ⟨y, t, rfl, rfl⟩ := r1.str_inv; exact ⟨.str y :: ks, rfl, .cons (atomIs_str y t) hk⟩
    | _ => cases e1

theorem as_key {k : PV} {c : Value} {ok : Addr → Prop} (e : keyP k = true) (r : VRep prog w h ok k c) :
    (∃ a, k = atomPV a ∧ (atomKind prog w).is a c = true) ∨ ∃ as x, k = tupPV as ∧ c = .ref x ∧ (tupKind prog w).is h as x := by
  cases k with
  | int i => obtain ⟨t, rfl⟩ := r.int_inv; exact .inl ⟨.int i, rfl, atomIs_int i t⟩
  | str y => obtain ⟨y, t, rfl, rfl⟩ := r.str_inv; exact .inl ⟨.str y, rfl, atomIs_str y t⟩
  | tup l =>
    obtain ⟨x, items, rfl, hl, a⟩ := r.tup_inv
    obtain ⟨ks, rfl, hk⟩ := items_are e a
    obtain ⟨n, hn⟩ := id hl
    exact .inr ⟨ks, _, rfl, rfl, ⟨_, _, n, hn, rfl, rfl, hk⟩, _, hl⟩
  | _ => cases e

theorem eq_atom_tup {a : Atom} {l : List Atom} {c : Bool} : ¬ PV.eq (atomPV a) (tupPV l) = some c := by cases a <;> exact noS
theorem eq_tup_atom {a : Atom} {l : List Atom} {c : Bool} : ¬ PV.eq (tupPV l) (atomPV a) = some c := by cases a <;> exact noS

theorem entries_inj {xs ys : List (List Atom × Addr × Value)} (hx : ∀ x ∈ xs, (tupKind prog w).is h x.1 x.2.1) (hy : ∀ x ∈ ys, (tupKind prog w).is h x.1 x.2.1)
    (e : xs.map (entryOfKey (tupKind prog w)) = ys.map (entryOfKey (tupKind prog w))) : xs = ys := by
  induction xs generalizing ys with
  | nil => cases ys with | nil => rfl | cons _ _ => simp at e
  | cons x xs ih =>
    cases ys with
    | nil => simp at e
    | cons y ys =>
      simp only [List.map_cons, List.cons.injEq] at e
      obtain ⟨e1, e2⟩ := e
      rw [ih (fun z hz => hx z (.tail _ hz)) (fun z hz => hy z (.tail _ hz)) e2]
      have h1 := hx x (.head _)
      have h2 := hy y (.head _)
      obtain ⟨k, a, v⟩ := x
      obtain ⟨k', a', v'⟩ := y
      simp only [entryOfKey, DictEntry.mk.injEq, Value.ref.injEq] at e1
      obtain ⟨_, rfl, rfl⟩ := e1
      have := (tupKind prog w).inj h1 h2
      simp only at this
      rw [this]
theorem pairs_inj {es : List DictEntry} {xs ys : List (Atom × Value)} (hx : Pairs (atomKind prog w) es xs) (hy : Pairs (atomKind prog w) es ys) : xs = ys := by
  induction hx generalizing ys with
  | nil => cases hy; rfl
  | @cons e kv es kvs h1 h2 _ ih =>
    cases hy with
    | @cons _ kv' _ kvs' h1' h2' r' =>
      rw [ih r']
      congr 1
      exact Prod.ext ((atomKind prog w).inj _ _ _ h1 h1') (h2.symm.trans h2')

inductive DView (prog : Program) (w : World) (h : Heap) (Ok : (Addr → Prop) → Prop) (ks vs : List PV) (a : Addr) : Prop
  | T (xs : List (List Atom × Addr × Value)) (hd : h.DictOfH (tupKind prog w) a xs) (e : ks = xs.map fun x => tupPV x.1) (ha : ∀ ok, Ok ok → ok a ∧ VAll prog w h ok vs (xs.map fun x => x.2.2))
  | A (xs : List (Atom × Value)) (hd : h.DictOf (atomKind prog w) a xs) (e : ks = xs.map fun x => atomPV x.1) (ha : ∀ ok, Ok ok → ok a ∧ VAll prog w h ok vs (xs.map fun x => x.2))

theorem dict_emptyTA {a : Addr} (hd : h.DictOfH (tupKind prog w) a []) : h.DictOf (atomKind prog w) a [] := by
  obtain ⟨o, es, ep, h1, h2, h3, h4, h5, h6⟩ := hd
  have : es = #[] := by simpa using h4
  subst this
  exact ⟨o, #[], ep, h1, h2, h3, fun _ he => by simp at he, .nil, List.nodup_nil⟩
theorem dict_emptyAT {a : Addr} (hd : h.DictOf (atomKind prog w) a []) : h.DictOfH (tupKind prog w) a [] := by
  obtain ⟨o, es, ep, h1, h2, h3, h4, h5, h6⟩ := hd
  have : es = #[] := by cases hq : es.toList with | nil => simpa using hq | cons _ _ => rw [hq] at h5; cases h5
  subst this
  exact ⟨o, #[], ep, h1, h2, h3, rfl, fun _ hx => (nomatch hx), List.nodup_nil⟩

theorem dicts {ks vs : List PV} {c : Value} (hT : Ok fun _ => True) (r : ∀ ok, Ok ok → VRep prog w h ok (.dict ks vs) c) :
    ∃ a, c = .ref a ∧ (a == sysModules) = false ∧ DView prog w h Ok ks vs a := by
  cases r _ hT with
  | @dictT _ _ a xs _ hd hds e ha =>
    refine ⟨a, rfl, hds, .T xs hd e fun ok o => ?_⟩
    cases r ok o with
    | dictT ys o' hd' hds' e' ha' =>
      refine ⟨o', ?_⟩
      obtain ⟨ob, es, ep, h1, h2, h3, h4, h5, h6⟩ := hd
      obtain ⟨ob', es', ep', h1', h2', h3', h4', h5', h6'⟩ := hd'
      rw [h1] at h1'; cases h1'
      rw [h3] at h3'; cases h3'
      have := entries_inj h5 h5' (h4.symm.trans h4')
      subst this
      exact ha'
    | dictA ys o' hd' hds' e' ha' =>
      refine ⟨o', ?_⟩
      rw [e] at e'
      cases xs with
      | nil => cases ys with
        | nil => exact ha'
        | cons _ _ => simp at e'
      | cons x xs => cases ys with
        | nil => simp at e'
        | cons y ys =>
          simp only [List.map_cons, List.cons.injEq] at e'
          obtain ⟨e1, _⟩ := e'
          cases hy : y.1 <;> simp [tupPV, atomPV, hy] at e1
  | @dictA _ _ a xs _ hd hds e ha =>
    refine ⟨a, rfl, hds, .A xs hd e fun ok o => ?_⟩
    cases r ok o with
    | dictA ys o' hd' hds' e' ha' =>
      refine ⟨o', ?_⟩
      obtain ⟨ob, es, ep, h1, h2, h3, h4, h5, h6⟩ := hd
      obtain ⟨ob', es', ep', h1', h2', h3', h4', h5', h6'⟩ := hd'
      rw [h1] at h1'; cases h1'
      rw [h3] at h3'; cases h3'
      have := pairs_inj h5 h5'
      subst this
      exact ha'
    | dictT ys o' hd' hds' e' ha' =>
      refine ⟨o', ?_⟩
      rw [e] at e'
      cases xs with
      | nil => cases ys with
        | nil => exact ha'
        | cons _ _ => simp at e'
      | cons x xs => cases ys with
        | nil => simp at e'
        | cons y ys =>
          simp only [List.map_cons, List.cons.injEq] at e'
          obtain ⟨e1, _⟩ := e'
          cases hx : x.1 <;> simp [tupPV, atomPV, hx] at e1
theorem atKey_sound {xs : List (List Atom × Addr × Value)} {k : List Atom} {vs : List PV} {ok : Addr → Prop} (r : VAll prog w h ok vs (xs.map fun x => x.2.2)) {o : Option PV} :
    getD2 (tupPV k) (xs.map fun x => tupPV x.1) vs = some o → match o with | some v => ∃ p, atKey xs k = some p ∧ VRep prog w h ok v p.2 | none => atKey xs k = none :=
  fun e => atKey_get (fun _ _ e => tupPV_inj e) r (fun a b c q => (eq_true q).trans ⟨fun e => tupPV_inj e, fun e => by rw [e]⟩) e
theorem valueAt_sound : ∀ {xs : List (Atom × Value)} {k : Atom} {vs : List PV} {ok : Addr → Prop} (_ : VAll prog w h ok vs (xs.map fun x => x.2)) {o : Option PV},
    getD2 (atomPV k) (xs.map fun x => atomPV x.1) vs = some o → match o with | some v => ∃ p, valueAt xs k = some p ∧ VRep prog w h ok v p | none => valueAt xs k = none
  | [], k, vs, ok, r, o, e => by
    simp [getD2] at e; subst e; rfl
  | (a, p) :: xs, k, vs, ok, r, o, e => by
    cases r with | cons rv rr =>
    simp only [List.map_cons, getD2] at e
    cases hq : PV.eq (atomPV a) (atomPV k) with
    | none => rw [hq] at e; cases e
    | some c =>
      rw [hq] at e
      have hc := (eq_true hq).trans ⟨fun e => atomPV_inj e, fun e => by rw [e]⟩
      cases c with
      | true =>
        have hak : a = k := hc.mp rfl
        simp only [List.head?_cons, Option.map_some, Option.some.injEq] at e
        subst e
        exact ⟨p, by simp [valueAt, hak], rv⟩
      | false =>
        have hak : ¬ a = k := fun h => by have := hc.mpr h; cases this
        have ih := valueAt_sound rr e
        have hk' : valueAt ((a, p) :: xs) k = valueAt xs k := by simp [valueAt, hak]
        rw [hk']
        exact ih

inductive KView (prog : Program) (w : World) (h : Heap) (Ok : (Addr → Prop) → Prop) (k : PV) (c : Value) (ks vs : List PV) (a : Addr) : Prop
  | T (as : List Atom) (x : Addr) (e1 : k = tupPV as) (e2 : c = .ref x) (hk : (tupKind prog w).is h as x) (xs : List (List Atom × Addr × Value)) (hd : h.DictOfH (tupKind prog w) a xs) (e : ks = xs.map fun x => tupPV x.1)
      (ha : ∀ ok, Ok ok → ok a ∧ VAll prog w h ok vs (xs.map fun x => x.2.2))
  | A (k' : Atom) (e1 : k = atomPV k') (hk : (atomKind prog w).is k' c = true) (xs : List (Atom × Value)) (hd : h.DictOf (atomKind prog w) a xs) (e : ks = xs.map fun x => atomPV x.1)
      (ha : ∀ ok, Ok ok → ok a ∧ VAll prog w h ok vs (xs.map fun x => x.2))
theorem kview {k : PV} {c : Value} {ks vs : List PV} {a : Addr} {ok : Addr → Prop} {o : Option PV} (d : DView prog w h Ok ks vs a) (hk : keyP k = true) (r : VRep prog w h ok k c) (e : getD2 k ks vs = some o) : KView prog w h Ok k c ks vs a := by
  rcases as_key hk r with ⟨k', rfl, h1⟩ | ⟨as, x, rfl, rfl, h1⟩
  · cases d with
    | A xs hd e' ha => exact .A k' rfl h1 xs hd e' ha
    | T xs hd e' ha =>
      subst e'
      cases xs with
      | nil => exact .A k' rfl h1 [] (dict_emptyTA hd) rfl ha
      | cons x xs =>
        simp only [List.map_cons, getD2] at e
        cases q : PV.eq (tupPV x.1) (atomPV k') with
        | none => rw [q] at e; cases e
        | some c => exact absurd q eq_tup_atom
  · cases d with
    | T xs hd e' ha => exact .T as x rfl rfl h1 xs hd e' ha
    | A xs hd e' ha =>
      subst e'
      cases xs with
      | nil => exact .T as x rfl rfl h1 [] (dict_emptyAT hd) rfl ha
      | cons y xs =>
        simp only [List.map_cons, getD2] at e
        cases q : PV.eq (atomPV y.1) (tupPV as) with
        | none => rw [q] at e; cases e
        | some c => exact absurd q eq_atom_tup

theorem getItem_dict_sound {k v : PV} {ks vs : List PV} {c ck : Value} {ok : Addr → Prop} (hu : A.units + 1 < cLine) (hT : Ok fun _ => True) (r : ∀ ok, Ok ok → VRep prog w s.heap ok (.dict ks vs) c) (hk : keyP k = true)
    (rk : VRep prog w s.heap ok k ck) (e : getD2 k ks vs = some (some v)) : Gets prog w A s (getItem c ck) Ok v ∧ s.TypeIs c "dict" := by
  obtain ⟨a, rfl, hds, d⟩ := dicts hT r
  cases kview d hk rk e with
  | T as x e1 e2 hk' xs hd e' ha =>
    subst e1; subst e2; subst e'
    obtain ⟨p, hp, _⟩ := atKey_sound (ha _ hT).2 e
    refine ⟨.tok (cv := p.2) (fun ok o => ?_) fun E Q q => wpAny_getItem_heap hu hk' hd hp (q _), hd.typeIs⟩
    obtain ⟨p', hp', hr⟩ := atKey_sound (ha ok o).2 e
    rw [hp] at hp'; cases hp'
    exact hr
  | A k' e1 hk' xs hd e' ha =>
    subst e1; subst e'
    obtain ⟨p, hp, _⟩ := valueAt_sound (ha _ hT).2 e
    refine ⟨.tok (cv := p) (fun ok o => ?_) fun E Q q => wpAny_getItem_of hk' hd.mapOf hp (q _), hd.mapOf.typeIs⟩
    obtain ⟨p', hp', hr⟩ := valueAt_sound (ha ok o).2 e
    rw [hp] at hp'; cases hp'
    exact hr
theorem in_dict_sound {k : PV} {ks vs : List PV} {c ck : Value} {ok : Addr → Prop} {o : Option PV} (hu : A.units + 1 < cLine) (hT : Ok fun _ => True) (r : ∀ ok, Ok ok → VRep prog w s.heap ok (.dict ks vs) c) (hk : keyP k = true)
    (rk : VRep prog w s.heap ok k ck) (e : getD2 k ks vs = some o) : Gets prog w A s (compareOp .In ck c) Ok (.bool o.isSome) := by
  obtain ⟨a, rfl, hds, d⟩ := dicts hT r
  cases kview d hk rk e with
  | T as x e1 e2 hk' xs hd e' ha =>
    subst e1; subst e2; subst e'
    have h1 := atKey_sound (ha _ hT).2 e
    have h2 : (atKey xs as).isSome = o.isSome := by
      cases o with
      | none => simp only at h1; rw [h1]; rfl
      | some v => obtain ⟨p, hp, _⟩ := h1; rw [hp]; rfl
    exact .tok (cv := .bool o.isSome) (fun _ _ => .bool _) fun E Q q => wpAny_in_heap hu hk' hds hd (by rw [h2]; exact q _)
  | A k' e1 hk' xs hd e' ha =>
    subst e1; subst e'
    have h1 := valueAt_sound (ha _ hT).2 e
    have h2 : (valueAt xs k').isSome = o.isSome := by
      cases o with
      | none => simp only at h1; rw [h1]; rfl
      | some v => obtain ⟨p, hp, _⟩ := h1; rw [hp]; rfl
    exact .tok (cv := .bool o.isSome) (fun _ _ => .bool _) fun E Q q => wpAny_in_of hk' hds hd.mapOf (by rw [h2]; exact q _)
end
end Mine

namespace Mine
open PySem PySem.Calls PyProof.Rows PySem.W PySem.SeqAt
open AutoSeq1 (wpAny_loadPart')
open MeetsSeq MeetsSeq2 MeetsSeq3 SeqRoads2

section
variable {prog : Program} {w : World} {A : Around} {s : Shared} {Ok : (Addr → Prop) → Prop} {h : Heap}

/-! the whole, from behind -/
theorem range_rev {α : Type} (xs : Array α) : ((List.range xs.size).filterMap fun k => xs[xs.size - 1 - k]?) = xs.toList.reverse := by
  apply List.ext_getElem?
  intro i
  have h1 : ((List.range xs.size).filterMap fun k => xs[xs.size - 1 - k]?) = (List.range xs.size).pmap (fun k (hk : k < xs.size) => xs[xs.size - 1 - k]'(by omega)) (fun k hk => List.mem_range.mp hk) := by
    have : ∀ (l : List Nat) (hl : ∀ k ∈ l, k < xs.size), (l.filterMap fun k => xs[xs.size - 1 - k]?) = l.pmap (fun k (hk : k < xs.size) => xs[xs.size - 1 - k]'(by omega)) hl := by
      intro l hl
      induction l with
      | nil => rfl
      | cons k r ih =>
        have hk := hl k (.head _)
        rw [List.pmap_cons, List.filterMap_cons, Array.getElem?_eq_getElem (by omega)]
        simp only
        rw [ih fun j hj => hl j (.tail _ hj)]
    exact this _ _
  rw [h1, List.getElem?_pmap]
  by_cases hi : i < xs.size
  · simp [List.getElem?_range hi, List.getElem?_reverse, hi]
  · simp [hi, List.getElem?_eq_none (Nat.not_lt.mp hi)]

theorem revList_pick (items : Array Value) : slicePick items none none (some (-1)) = items.toList.reverse.toArray := by
  unfold slicePick
  have hb : sliceBounds none none (some (-1)) items.size = ((items.size : Int) - 1, -1, -1) := by simp [sliceBounds]
  rw [hb]
  congr 1
  rw [← range_rev]
  simp only
  unfold sliceRange
  have h1 : ¬ (-1 : Int) > 0 := by (first | lia | omega)
  simp only [h1, if_false]
  have e : (- -1 : Int) = 1 := by decide
  have hc : ((if (items.size : Int) - 1 > -1 then ((items.size : Int) - 1 - -1 - -1 - 1) / (- -1) else 0)).toNat = items.size := by
    rw [e]
    split <;> first | (simp only [Int.ediv_one]; (first | lia | omega)) | (first | lia | omega)
  rw [hc, List.filterMap_map]
  congr 1
  funext k
  simp only [Function.comp_apply]
  congr 1
  (first | lia | omega)
theorem revList_sound {l : List PV} {c : Value} {sl : Addr} {u : Tok} (hT : Ok fun _ => True) (hf : FreshOk s Ok) (hs : s.heap.IsSliceOf sl .none .none (.int (-1) u)) (hz : szOk l.length = true)
    (r : ∀ ok, Ok ok → VIt prog w s.heap ok (.list l) c) : Gets prog w A s (getItem c (.ref sl)) Ok (.list l.reverse) := by
  obtain ⟨a, items, rfl, hl, ha⟩ := VIt.lists hT r
  have hz' : items.size ≤ sizeLine := by have := (ha _ hT).length; have := szOk_le hz; simp at *; (first | lia | omega)
  refine .newList (items := items.toList.reverse.toArray) hf (fun ok o => by simpa using (ha ok o).reverse) fun E Q q => ?_
  refine wpAny_getItem_list_slice (lo := none) (hi := none) (st := some (-1)) hl.isList hs .none .none (.int _ _) (by simp) ?_ hz'
  rw [revList_pick]
  exact q
end
end Mine

namespace Mine
open PySem PySem.Calls PyProof.Rows PySem.W PySem.SeqAt
open AutoSeq1 (wpAny_loadPart')
open MeetsSeq MeetsSeq2 MeetsSeq3 SeqRoads2

section
variable {prog : Program} {w : World} {A : Around} {s : Shared} {Ok : (Addr → Prop) → Prop} {h : Heap} {ok ok' : Addr → Prop}

noncomputable def eqOf (prog : Program) (w : World) (h : Heap) (k : PV) (v : Value) : Bool :=
  @decide (VRep prog w h (fun _ => True) k v) (Classical.propDecidable _)
theorem eqOf_is {k x : PV} {v : Value} {b : Bool} (r : VRep prog w h ok x v) (e : PV.eq x k = some b) : eqOf prog w h k v = b := by
  cases b with
  | true => exact @decide_eq_true _ (Classical.propDecidable _) ((eq_true e).mp rfl ▸ r.weaken fun _ _ => trivial)
  | false => exact @decide_eq_false _ (Classical.propDecidable _) fun q => nomatch eqN_self 6 r q e

theorem eqOf_at {k : PV} {ck : Value} {l : List PV} {items : List Value} (hu : A.units + 7 < cLine) (ha : VAll prog w s.heap ok l items) (rk : VRep prog w s.heap ok' k ck) (hs : ∀ x ∈ l, ∃ b, PV.eq x k = some b) :
    ∀ y, y ∈ items → EqAt A.in1 s y ck (eqOf prog w s.heap k y) := by
  intro y hy
  obtain ⟨j, hj⟩ := List.getElem?_of_mem hy
  obtain ⟨x, hx, rx⟩ := ha.get' hj
  obtain ⟨b, hb⟩ := hs x (List.mem_of_getElem? hx)
  rw [eqOf_is rx hb]
  exact (eq_sound 6 (A := A.in1) (by show A.units + 1 + 6 < cLine; omega) rx rk hb).1

theorem isInL_step {y k : PV} {r : List PV} {b : Bool} (e : isInL k (y :: r) = some b) : ∃ c d, PV.eq y k = some c ∧ isInL k r = some d ∧ (c || d) = b := by
  have e : (match PV.eq y k, isInL k r with | some a, some b => some (a || b) | _, _ => none) = some b := e
  cases h1 : PV.eq y k with
  | none => rw [h1] at e; exact noS e
  | some c =>
    cases h2 : isInL k r with
    | none => rw [h1, h2] at e; exact noS e
    | some d => rw [h1, h2] at e; exact ⟨c, d, rfl, rfl, Option.some.inj e⟩
theorem isInL_all : ∀ {l : List PV} {k : PV} {b : Bool}, isInL k l = some b → ∀ x ∈ l, ∃ c, PV.eq x k = some c
  | y :: r, k, b, e, x, hx => by
    obtain ⟨c, d, h1, h2, _⟩ := isInL_step e
    rcases List.mem_cons.mp hx with rfl | hx
    · exact ⟨c, h1⟩
    · exact isInL_all h2 x hx
theorem isInL_any : ∀ {l : List PV} {k : PV} {b : Bool} {items : List Value}, VAll prog w h ok l items → isInL k l = some b → items.any (eqOf prog w h k) = b
  | [], k, b, items, r, e => by rw [r.nil_inv]; exact Option.some.inj e
  | x :: l, k, b, items, r, e => by
    obtain ⟨v, us, rfl, r, rr⟩ := r.cons_inv
    obtain ⟨c, d, h1, h2, rfl⟩ := isInL_step e
    rw [List.any_cons, eqOf_is r h1, isInL_any rr h2]
theorem countL_step {y k : PV} {r : List PV} {b : Nat} (e : countL k (y :: r) = some b) : ∃ c d, PV.eq y k = some c ∧ countL k r = some d ∧ (if c then d + 1 else d) = b := by
  have e : (match PV.eq y k, countL k r with | some b, some k => some (if b then k + 1 else k) | _, _ => none) = some b := e
  cases h1 : PV.eq y k with
  | none => rw [h1] at e; exact noS e
  | some c =>
    cases h2 : countL k r with
    | none => rw [h1, h2] at e; exact noS e
    | some d => rw [h1, h2] at e; exact ⟨c, d, rfl, rfl, Option.some.inj e⟩
theorem countL_all : ∀ {l : List PV} {k : PV} {b : Nat}, countL k l = some b → ∀ x ∈ l, ∃ c, PV.eq x k = some c
  | y :: r, k, b, e, x, hx => by
    obtain ⟨c, d, h1, h2, _⟩ := countL_step e
    rcases List.mem_cons.mp hx with rfl | hx
    · exact ⟨c, h1⟩
    · exact countL_all h2 x hx
theorem countL_is : ∀ {l : List PV} {k : PV} {b : Nat} {items : List Value}, VAll prog w h ok l items → countL k l = some b → items.countP (eqOf prog w h k) = b
  | [], k, b, items, r, e => by rw [r.nil_inv]; exact Option.some.inj e
  | x :: l, k, b, items, r, e => by
    obtain ⟨v, us, rfl, r, rr⟩ := r.cons_inv
    obtain ⟨c, d, h1, h2, rfl⟩ := countL_step e
    rw [List.countP_cons, eqOf_is r h1, countL_is rr h2]
    cases c <;> rfl

theorem cmp_ints {a b : PV} {f : Int → Int → Bool} {c : Bool} (e : cmpI a b f = some c) : ∃ i j, a = .int i ∧ b = .int j ∧ f i j = c := by
  obtain ⟨i, hi, e⟩ := bnd e
  obtain ⟨j, hj, e⟩ := bnd e
  exact ⟨i, j, intP_eq hi, intP_eq hj, Option.some.inj e⟩
theorem none_p {b : PV} (h : isNoneP b = true) : b = .none := by cases b <;> first | rfl | cases h
theorem not_none {a : PV} {ca : Value} {ok : Addr → Prop} (r : VRep prog w h ok a ca) (ha : isNoneP a = false) : ca ≠ .none := by
  rintro rfl
  cases r
  cases ha
theorem in_sound {a b : PV} {c : Bool} {ca cb : Value} (hu : A.units + 8 < cLine) (ra : VRep prog w s.heap (fun _ => True) a ca) (rb : VRep prog w s.heap (fun _ => True) b cb) (e : inP a b = some c) : Gets prog w A s (compareOp .In ca cb) Ok (.bool c) := by
  cases b with
  | list l =>
    obtain ⟨_, its, rfl, o, hl, al⟩ := rb.list_inv
    refine .bool fun E Q q => in_listAt (eqOf prog w s.heap a) hl.isList (fun y hy => eqOf_at (by (first | lia | omega)) al ra (isInL_all e) y (Array.mem_toList_iff.mpr hy)) ?_
    rw [← Array.any_toList, isInL_any al e]; exact q
  | tup l =>
    obtain ⟨_, its, rfl, hl, al⟩ := rb.tup_inv
    refine .bool fun E Q q => in_tupleAt (eqOf prog w s.heap a) hl.isTuple (fun y hy => eqOf_at (by (first | lia | omega)) al ra (isInL_all e) y (Array.mem_toList_iff.mpr hy)) ?_
    rw [← Array.any_toList, isInL_any al e]; exact q
  | dict ks vs =>
    have e : (if keyP a = true then (getD2 a ks vs).bind fun o => some o.isSome else none) = some c := e
    split at e
    · rename_i hk
      obtain ⟨o, h, e⟩ := bnd e
      cases e
      refine fun E Q q => in_dict_sound (Ok := fun ok => ok = fun _ => True) (by (first | lia | omega)) rfl (fun ok o => by subst o; exact rb) hk ra h E Q fun cv h' tk st r => q cv h' tk st fun ok o => ?_
      rw [(r _ rfl).bool_inv]
      exact .bool _
    · exact noS e
  | _ => exact noS e
theorem notin_sound {a b : PV} {c : Bool} {ca cb : Value} (hu : A.units + 8 < cLine) (ra : VRep prog w s.heap (fun _ => True) a ca) (rb : VRep prog w s.heap (fun _ => True) b cb) (e : notInP a b = some c) : Gets prog w A s (compareOp .NotIn ca cb) Ok (.bool c) := by
  cases b with
  | list l =>
    obtain ⟨_, its, rfl, o, hl, al⟩ := rb.list_inv
    obtain ⟨d, h, e⟩ := bnd (show (isInL a l).bind (fun c => some (!c)) = some c from e)
    cases e
    refine .bool fun E Q q => notIn_listAt (eqOf prog w s.heap a) hl.isList (fun y hy => eqOf_at (by (first | lia | omega)) al ra (isInL_all h) y (Array.mem_toList_iff.mpr hy)) ?_
    rw [← Array.any_toList, isInL_any al h]; exact q
  | tup l =>
    obtain ⟨_, its, rfl, hl, al⟩ := rb.tup_inv
    obtain ⟨d, h, e⟩ := bnd (show (isInL a l).bind (fun c => some (!c)) = some c from e)
    cases e
    refine .bool fun E Q q => notIn_tupleAt (eqOf prog w s.heap a) hl.isTuple (fun y hy => eqOf_at (by (first | lia | omega)) al ra (isInL_all h) y (Array.mem_toList_iff.mpr hy)) ?_
    rw [← Array.any_toList, isInL_any al h]; exact q
  | _ => exact noS e

theorem cmp_sound {op : CmpOp} {a b : PV} {c : Bool} {ca cb : Value} (hu : A.units + 8 < cLine) (ra : VRep prog w s.heap (fun _ => True) a ca) (rb : VRep prog w s.heap (fun _ => True) b cb) (e : evalCmp op a b = some c) :
    Gets prog w A s (compareOp op ca cb) Ok (.bool c) := by
  cases op with
  | Eq => exact .bool fun E Q q => (eq_sound 6 (by (first | lia | omega)) ra rb e).2 prog w E Q q
  | NotEq =>
    obtain ⟨d, h, e⟩ := bnd (show (PV.eq a b).bind (fun c => some (!c)) = some c from e)
    cases e
    exact .bool fun E Q q => ne_sound 6 (by (first | lia | omega)) ra rb h prog w E Q q
  | Lt => exact .bool fun E Q q => lt_sound 6 (by (first | lia | omega)) ra rb e prog w E Q q
  | LtE =>
    obtain ⟨i, j, rfl, rfl, rfl⟩ := cmp_ints e
    obtain ⟨t, rfl⟩ := ra.int_inv; obtain ⟨u, rfl⟩ := rb.int_inv
    exact .bool fun E Q q => PyProof.Rows.le_int q
  | Gt =>
    obtain ⟨i, j, rfl, rfl, rfl⟩ := cmp_ints e
    obtain ⟨t, rfl⟩ := ra.int_inv; obtain ⟨u, rfl⟩ := rb.int_inv
    exact .bool fun E Q q => PyProof.Rows.gt_int q
  | GtE =>
    obtain ⟨i, j, rfl, rfl, rfl⟩ := cmp_ints e
    obtain ⟨t, rfl⟩ := ra.int_inv; obtain ⟨u, rfl⟩ := rb.int_inv
    exact .bool fun E Q q => PyProof.Rows.ge_int q
  | Is =>
    obtain ⟨hb, rfl⟩ := ifS e
    obtain rfl := none_p hb
    obtain rfl := rb.none_inv
    cases ha : isNoneP a with
    | true => obtain rfl := none_p ha; obtain rfl := ra.none_inv; exact .bool fun E Q q => wpAny_is_self rfl q
    | false => exact .bool fun E Q q => PyProof.Rows.is_none_ne (not_none ra ha) q
  | IsNot =>
    obtain ⟨hb, rfl⟩ := ifS e
    obtain rfl := none_p hb
    obtain rfl := rb.none_inv
    cases ha : isNoneP a with
    | true => obtain rfl := none_p ha; obtain rfl := ra.none_inv; exact .bool fun E Q q => wpAny_isNot_self rfl q
    | false => exact .bool fun E Q q => PyProof.Rows.isnot_none_ne (not_none ra ha) q
  | In => exact in_sound hu ra rb e
  | NotIn => exact notin_sound hu ra rb e
end
end Mine

namespace Mine
open PySem PySem.Calls PyProof.Rows PySem.W PySem.SeqAt

theorem strEq_iff {a b : Str} : strEq a b = true ↔ a = b := by
  unfold strEq
  constructor
  · intro h; exact Str.ext_list (by simpa using h)
  · rintro rfl; simp
theorem strEq_self (a : Str) : strEq a a = true := strEq_iff.mpr rfl
theorem strEq_ne {a b : Str} (h : a ≠ b) : strEq a b = false := by
  cases e : strEq a b with
  | false => rfl
  | true => exact absurd (strEq_iff.mp e) h
theorem kindIn_lookup (x : Str) : ∀ l : List (Str × NameKind), kindIn x l = l.lookup x
  | [] => rfl
  | (y, k) :: r => by
    unfold kindIn
    rw [List.lookup_cons]
    by_cases h : y = x
    · subst h; simp [strEq_self]
    · rw [strEq_ne h]
      have : (x == y) = false := by simpa using fun e => h e.symm
      simp [this, kindIn_lookup x r]
theorem look_setV (x y : Str) (s : Mode × PV) : ∀ vars : Vars, look y (setV x s vars) = if x = y then some s else look y vars
  | [] => by
    unfold setV look
    by_cases h : x = y
    · subst h; simp [strEq_self]
    · rw [strEq_ne h]; simp [h, look]
  | (z, t) :: r => by
    unfold setV
    by_cases h : z = x
    · subst h
      simp only [strEq_self, look]
      by_cases h2 : z = y
      · subst h2; simp [strEq_self]
      · rw [strEq_ne h2]; simp [h2]
    · rw [strEq_ne h]
      simp only [look]
      by_cases h2 : z = y
      · subst h2; simp [strEq_self, Ne.symm h]
      · rw [strEq_ne h2]; simpa using look_setV x y s r

section
variable (prog : Program) (w : World) (hb : Heap)

structure Pubs where
  p : Addr → Prop
  nw : Addr → Prop
  sub : ∀ a, p a → nw a
noncomputable def Wc (sc : Scope) (env : Env) (a : Addr) : Prop := a = env.locals ∨ ∃ x, kindIn x sc.names = some .cell ∧ env.cells.lookup x = some a
structure Reads (sc : Scope) (env : Env) (pub : Pubs) (vars : Vars) (h : Heap) : Prop where
  base : hb.StaysIn h
  glob : env.globals = mainGlobals
  blt : env.builtins = builtinsNs
  kind : env.scope.kind = .function
  kok : ∀ x k, kindIn x sc.names = some k → env.kindOf x = some k ∨ (k = .free ∧ env.kindOf x = some .cell)
  cel : ∀ x, kindIn x sc.names = some .cell ∨ kindIn x sc.names = some .free → ∃ c u, env.cells.lookup x = some c ∧ h.IsCell c u
  vars : ∃ m, h.Ns env.locals m ∧ ∀ x md v, look x vars = some (md, v) → ∃ cv, VRep prog w h pub.nw v cv ∧ (md = .P → VRep prog w h pub.p v cv) ∧
    (kindIn x sc.names = some .local → m x = some cv) ∧ (kindIn x sc.names = some .cell ∨ kindIn x sc.names = some .free → ∃ c, env.cells.lookup x = some c ∧ h.IsCell c (some cv))

noncomputable def Wr (sc : Scope) (env : Env) (vars : Vars) (val : Str → Option Value) (a : Addr) : Prop :=
  a = env.locals ∨ (∃ x, kindIn x sc.names = some .cell ∧ env.cells.lookup x = some a) ∨ ∃ x md v, look x vars = some (md, v) ∧ ownM md = true ∧ val x = some (.ref a)

noncomputable def SlotAt (h : Heap) (pb nb : Addr → Prop) (lent : Addr) (W : Addr → Prop) (md : Mode) (v : PV) (cv : Value) : Prop := match md with
  | .P => VRep prog w h (fun a => (pb a ∧ nb a) ∧ ¬ W a) v cv
  | .B => VRep prog w h (fun a => nb a ∧ ¬ W a) v cv
  | .O => okItems v = true ∧ ∃ a, cv = .ref a ∧ VRep prog w h (fun b => b = a) v cv ∧ pb a ∧ nb a
  | .M => okItems v = true ∧ cv = .ref lent ∧ VRep prog w h (fun b => b = lent) v cv ∧ nb lent

structure Frame (sc : Scope) (env : Env) (pb nb : Addr → Prop) (lent : Addr) (vars : Vars) (val : Str → Option Value) (h : Heap) : Prop where
  base : hb.StaysIn h
  glob : env.globals = mainGlobals
  blt : env.builtins = builtinsNs
  kind : env.scope.kind = .function
  kok : ∀ x k, kindIn x sc.names = some k → env.kindOf x = some k ∨ (k = .free ∧ env.kindOf x = some .cell)
  ns : ∃ m, h.Ns env.locals m ∧ ∀ x cv, kindIn x sc.names = some .local → (look x vars).isSome = true → val x = some cv → m x = some cv
  cel : ∀ x, kindIn x sc.names = some .cell ∨ kindIn x sc.names = some .free → ∃ c u, env.cells.lookup x = some c ∧ h.IsCell c u ∧ nb c ∧ ∀ cv, (look x vars).isSome = true → val x = some cv → u = some cv
  apart : ∀ x y c, kindIn x sc.names = some .cell → (kindIn y sc.names = some .cell ∨ kindIn y sc.names = some .free) → env.cells.lookup x = some c → env.cells.lookup y = some c → x = y
  slots : ∀ x md v, look x vars = some (md, v) → ∃ cv, val x = some cv ∧ SlotAt prog w h pb nb lent (Wr sc env vars val) md v cv
  own1 : ∀ x y mx vx my vy a, look x vars = some (mx, vx) → ownM mx = true → look y vars = some (my, vy) → ownM my = true → val x = some (.ref a) → val y = some (.ref a) → x = y
  sepL : ∀ x md v, look x vars = some (md, v) → ownM md = true → val x ≠ some (.ref env.locals)
  nbL : nb env.locals
  old : ∀ a, Wr sc env vars val a → hb.get? a = none
  pbf : ∀ a, h.get? a = none → pb a
  nbf : ∀ a, h.get? a = none → nb a
end

section
variable {prog : Program} {w : World} {hb h h' : Heap} {sc : Scope} {env : Env} {pb nb nb' ok ok' : Addr → Prop} {lent : Addr} {vars : Vars} {val : Str → Option Value}

noncomputable def Cont (h : Heap) (a : Addr) : Prop := ∃ o, h.get? a = some o ∧ ((∃ xs n, o.data = .seq xs n) ∨ ∃ es ep, o.data = .dict es ep)
theorem reps_here : (∀ x v, VRep prog w h ok x v → VRep prog w h (fun a => ok a ∧ Cont h a) x v) ∧ ∀ l vs, VAll prog w h ok l vs → VAll prog w h (fun a => ok a ∧ Cont h a) l vs :=
  reps_map (fun _ _ hl => hl) (fun _ _ o hl => ⟨⟨o, let ⟨_, e⟩ := hl; ⟨_, e, .inl ⟨_, _, rfl⟩⟩⟩, hl⟩)
    (fun _ _ o hd => ⟨⟨o, let ⟨ob, _, _, ho, _, h2, _⟩ := hd; ⟨ob, ho, .inr ⟨_, _, h2⟩⟩⟩, hd⟩) (fun _ _ o hd => ⟨⟨o, let ⟨ob, _, _, ho, _, h2, _⟩ := hd; ⟨ob, ho, .inr ⟨_, _, h2⟩⟩⟩, hd⟩)
theorem VRep.here {x : PV} {v : Value} (r : VRep prog w h ok x v) : VRep prog w h (fun a => ok a ∧ Cont h a) x v := reps_here.1 x v r
theorem VAll.here {x : List PV} {v : List Value} (r : VAll prog w h ok x v) : VAll prog w h (fun a => ok a ∧ Cont h a) x v := reps_here.2 x v r
theorem Cont.some {a : Addr} (c : Cont h a) : h.get? a ≠ Option.none := by obtain ⟨o, e, _⟩ := c; rw [e]; simp
theorem VRep.exist {x : PV} {v : Value} (r : VRep prog w h ok x v) : VRep prog w h (fun a => ok a ∧ h.get? a ≠ Option.none) x v := r.here.weaken fun a o => ⟨o.1, o.2.some⟩
theorem VAll.exist {x : List PV} {v : List Value} (r : VAll prog w h ok x v) : VAll prog w h (fun a => ok a ∧ h.get? a ≠ Option.none) x v := r.here.weaken fun a o => ⟨o.1, o.2.some⟩
end
end Mine

namespace Mine
open PySem PySem.Calls PyProof.Rows PySem.W PySem.SeqAt

section
variable {prog : Program} {w : World} {hb h h' : Heap} {sc : Scope} {env : Env} {pb nb nb' ok ok' : Addr → Prop} {lent : Addr} {vars : Vars} {val : Str → Option Value}

noncomputable def Mut (h : Heap) (a : Addr) : Prop := ∃ o, h.get? a = some o ∧ ((∃ xs n, o.data = .seq xs n) ∨ (∃ es ep, o.data = .dict es ep) ∨ ∃ v, o.data = .cell v)
noncomputable def ItOb (h : Heap) (a : Addr) : Prop := ∃ o vs, h.get? a = some o ∧ o.data = .fields vs
theorem Cont.mut {a : Addr} (c : Cont h a) : Mut h a := let ⟨o, e, d⟩ := c; ⟨o, e, d.elim .inl fun x => .inr (.inl x)⟩
theorem Mut.some {a : Addr} (c : Mut h a) : h.get? a ≠ Option.none := by obtain ⟨o, e, _⟩ := c; rw [e]; simp
theorem ItOb.not {a : Addr} (c : Mut h a) (d : ItOb h a) : False := by
  obtain ⟨o, e, q⟩ := c
  obtain ⟨o', vs, e', r⟩ := d
  rw [e] at e'; cases e'
  rcases q with ⟨_, _, q⟩ | ⟨_, _, q⟩ | ⟨_, q⟩ <;> rw [r] at q <;> cases q
theorem ItOb.some {a : Addr} (c : ItOb h a) : h.get? a ≠ Option.none := by obtain ⟨o, _, e, _⟩ := c; rw [e]; simp
theorem isCell_mut {c : Addr} {v : Option Value} (x : h.IsCell c v) : Mut h c := let ⟨o, ho, hd⟩ := x; ⟨o, ho, .inr (.inr ⟨_, hd⟩)⟩
theorem ns_mut {a : Addr} {m} (x : h.Ns a m) : Mut h a := let ⟨o, es, ep, ho, hd, _⟩ := x; ⟨o, ho, .inr (.inl ⟨_, _, hd⟩)⟩
theorem cell_cont {c : Addr} {v : Option Value} (x : h.IsCell c v) (d : Cont h c) : False := by
  obtain ⟨o, ho, hd⟩ := x
  obtain ⟨o', ho', q⟩ := d
  rw [ho] at ho'; cases ho'
  rcases q with ⟨_, _, q⟩ | ⟨_, _, q⟩ <;> rw [hd] at q <;> cases q
theorem cell_ns {c : Addr} {v : Option Value} {m} (x : h.IsCell c v) (d : h.Ns c m) : False := by
  obtain ⟨o, ho, hd⟩ := x
  obtain ⟨o', es, ep, ho', hd', _⟩ := d
  rw [ho] at ho'; cases ho'
  rw [hd] at hd'; cases hd'
theorem cell_at {c : Addr} {v : Option Value} (x : h.IsCell c v) (k : ∀ o, h.get? c = some o → h'.get? c = some o) : h'.IsCell c v := let ⟨o, ho, hd⟩ := x; ⟨o, k o ho, hd⟩

theorem VRep.self_cont {v : PV} {a : Addr} (hv : okItems v = true) (r : VRep prog w h (fun b => b = a) v (.ref a)) (hn : ∀ l, v ≠ .tup l) : Cont h a := by
  cases r.here with
  | tup => exact absurd rfl (hn _)
  | list o _ _ => exact o.2
  | dictT _ o => exact o.2
  | dictA _ o => exact o.2

theorem SlotAt.own {md : Mode} {v : PV} {cv : Value} {W : Addr → Prop} (s : SlotAt prog w h pb nb lent W md v cv) (hm : ownM md = true) : okItems v = true ∧ ∃ a, cv = .ref a ∧ VRep prog w h (fun b => b = a) v cv ∧ nb a := by
  cases md with
  | P => cases hm
  | B => cases hm
  | O => exact ⟨s.1, let ⟨a, e, r, _, n⟩ := s.2; ⟨a, e, r, n⟩⟩
  | M => exact ⟨s.1, _, s.2.1, s.2.2.1, s.2.2.2⟩
theorem SlotAt.any {md : Mode} {v : PV} {cv : Value} {W : Addr → Prop} (s : SlotAt prog w h pb nb lent W md v cv) : VRep prog w h (fun _ => True) v cv := by
  cases md with
  | P => exact VRep.weaken (fun _ _ => trivial) s
  | B => exact VRep.weaken (fun _ _ => trivial) s
  | O => obtain ⟨_, a, _, r, _⟩ := s; exact r.weaken fun _ _ => trivial
  | M => obtain ⟨_, _, r, _⟩ := s; exact r.weaken fun _ _ => trivial
theorem VRep.ref_some {v : PV} {a : Addr} (r : VRep prog w h ok v (.ref a)) : Mut h a := by
  cases r with
  | tup hl => obtain ⟨n, e⟩ := hl; exact ⟨_, e, .inl ⟨_, _, rfl⟩⟩
  | list _ hl => obtain ⟨n, e⟩ := hl; exact ⟨_, e, .inl ⟨_, _, rfl⟩⟩
  | dictT _ _ hd => obtain ⟨ob, _, _, ho, _, h2, _⟩ := hd; exact ⟨ob, ho, .inr (.inl ⟨_, _, h2⟩)⟩
  | dictA _ _ hd => obtain ⟨ob, _, _, ho, _, h2, _⟩ := hd; exact ⟨ob, ho, .inr (.inl ⟨_, _, h2⟩)⟩

theorem Frame.wr_mut (F : Frame prog w hb sc env pb nb lent vars val h) {a : Addr} (x : Wr sc env vars val a) : Mut h a := by
  rcases x with rfl | ⟨x, hx, hc⟩ | ⟨x, md, v, hx, hm, hv⟩
  · obtain ⟨m, hn, _⟩ := F.ns; exact ns_mut hn
  · obtain ⟨c, u, hl, hi, _⟩ := F.cel x (.inl hx)
    rw [hc] at hl; cases hl; exact isCell_mut hi
  · obtain ⟨cv, hcv, s⟩ := F.slots x md v hx
    rw [hv] at hcv; cases hcv
    exact s.any.ref_some

theorem Wr.of_wc {a : Addr} (x : Wc sc env a) : Wr sc env vars val a := x.elim .inl fun y => .inr (.inl y)
noncomputable def frPubs (sc : Scope) (env : Env) (pb nb : Addr → Prop) (vars : Vars) (val : Str → Option Value) : Pubs where
  p := fun a => (pb a ∧ nb a) ∧ ¬ Wr sc env vars val a
  nw := fun a => nb a ∧ ¬ Wc sc env a
  sub := fun _ o => ⟨o.1.2, fun x => o.2 (.of_wc x)⟩
theorem Frame.reads (F : Frame prog w hb sc env pb nb lent vars val h) : Reads prog w hb sc env (frPubs sc env pb nb vars val) vars h where
  base := F.base
  glob := F.glob
  blt := F.blt
  kind := F.kind
  kok := F.kok
  cel := fun x hx => let ⟨c, u, a, b, _⟩ := F.cel x hx; ⟨c, u, a, b⟩
  vars := by
    obtain ⟨m, hn, hm⟩ := F.ns
    refine ⟨m, hn, fun x md v hx => ?_⟩
    obtain ⟨cv, hcv, s⟩ := F.slots x md v hx
    have hs : (look x vars).isSome = true := by rw [hx]; rfl
    have notC : ownM md = true → ∀ a, cv = .ref a → Cont h a → ¬ Wc sc env a := by
      rintro ho a rfl hc (rfl | ⟨y, hy, hl⟩)
      · exact F.sepL x md v hx ho hcv
      · obtain ⟨c, u, h1, h2, _⟩ := F.cel y (.inl hy)
        rw [hl] at h1; cases h1; exact cell_cont h2 hc
    refine ⟨cv, ?_, fun e => by subst e; exact s, fun hk => hm x cv hk hs hcv, fun hk => ?_⟩
    · cases md with
      | P => exact VRep.weaken (fun a o => ⟨o.1.2, fun x => o.2 (.of_wc x)⟩) s
      | B => exact VRep.weaken (fun a o => ⟨o.1, fun x => o.2 (.of_wc x)⟩) s
      | O => obtain ⟨_, a, rfl, r, _, hn⟩ := s; exact r.here.weaken fun b o => by obtain ⟨rfl, c⟩ := o; exact ⟨hn, notC rfl b rfl c⟩
      | M => obtain ⟨_, rfl, r, hn⟩ := s; exact r.here.weaken fun b o => by obtain ⟨rfl, c⟩ := o; exact ⟨hn, notC rfl b rfl c⟩
    · obtain ⟨c, u, hl, hi, _, hu⟩ := F.cel x hk
      exact ⟨c, hl, hu cv hs hcv ▸ hi⟩
theorem Frame.fresh (F : Frame prog w hb sc env pb nb lent vars val h) : ∀ b, h.get? b = none → (frPubs sc env pb nb vars val).p b := fun b e => ⟨⟨F.pbf b e, F.nbf b e⟩, fun x => (F.wr_mut x).some e⟩

theorem SlotAt.move {V W W' : Addr → Prop} {md : Mode} {v : PV} {cv : Value} (k : Kp V h h') (hP : ∀ a, Cont h a → nb a → ¬ W a → ¬ V a ∧ nb' a ∧ ¬ W' a) (hO : ownM md = true → ∀ a, cv = .ref a → nb a → Cont h a → ¬ V a ∧ nb' a)
    (s : SlotAt prog w h pb nb lent W md v cv) : SlotAt prog w h' pb nb' lent W' md v cv := by
  cases md with
  | P =>
    refine (VRep.here s).kp k fun a o => ?_
    obtain ⟨h1, h2, h3⟩ := hP a o.2 o.1.1.2 o.1.2
    exact ⟨h1, ⟨o.1.1.1, h2⟩, h3⟩
  | B =>
    refine (VRep.here s).kp k fun a o => ?_
    obtain ⟨h1, h2, h3⟩ := hP a o.2 o.1.1 o.1.2
    exact ⟨h1, h2, h3⟩
  | O =>
    obtain ⟨hi, a, rfl, r, hp, hn⟩ := s
    have key : ∀ b, b = a ∧ Cont h b → ¬ V b := fun b o => by obtain ⟨rfl, c⟩ := o; exact (hO rfl b rfl hn c).1
    refine ⟨hi, a, rfl, r.here.kp k fun b o => ⟨key b o, o.1⟩, hp, ?_⟩
    cases r.here with
    | tup hl _ => obtain ⟨n, e⟩ := hl; exact (hO rfl a rfl hn ⟨_, e, .inl ⟨_, _, rfl⟩⟩).2
    | list o => exact (hO rfl a rfl hn o.2).2
    | dictT _ o => exact (hO rfl a rfl hn o.2).2
    | dictA _ o => exact (hO rfl a rfl hn o.2).2
  | M =>
    obtain ⟨hi, rfl, r, hn⟩ := s
    have key : ∀ b, b = lent ∧ Cont h b → ¬ V b := fun b o => by obtain ⟨rfl, c⟩ := o; exact (hO rfl b rfl hn c).1
    refine ⟨hi, rfl, r.here.kp k fun b o => ⟨key b o, o.1⟩, ?_⟩
    cases r.here with
    | tup hl _ => obtain ⟨n, e⟩ := hl; exact (hO rfl lent rfl hn ⟨_, e, .inl ⟨_, _, rfl⟩⟩).2
    | list o => exact (hO rfl lent rfl hn o.2).2
    | dictT _ o => exact (hO rfl lent rfl hn o.2).2
    | dictA _ o => exact (hO rfl lent rfl hn o.2).2

theorem Frame.move {V : Addr → Prop} (F : Frame prog w hb sc env pb nb lent vars val h) (k : Kp V h h') (hV : ∀ a, V a → ItOb h a ∨ ¬ nb a) (ex : ∀ a, h'.get? a = none → h.get? a = none)
    (hvb : ∀ a, V a → hb.get? a = none)
    (hn : ∀ a, nb a → h.get? a ≠ none → nb' a) (hn' : ∀ a, h'.get? a = none → nb' a) : Frame prog w hb sc env pb nb' lent vars val h' := by
  have notV : ∀ a, Mut h a → nb a → ¬ V a := fun a m n v => (hV a v).elim (ItOb.not m) fun q => q n
  have keepM : ∀ a, Mut h a → nb a → ∀ o, h.get? a = some o → h'.get? a = some o := fun a m n o e => k a o e (.inl (notV a m n))
  exact {
    base := fun a o e => k a o (F.base a o e) (.inl fun v => by rw [hvb a v] at e; cases e)
    glob := F.glob
    blt := F.blt
    kind := F.kind
    kok := F.kok
    ns := let ⟨m, hm, r⟩ := F.ns; ⟨m, hm.at' (keepM _ (ns_mut hm) F.nbL), r⟩
    cel := fun x hx => let ⟨c, u, a, b, d, e⟩ := F.cel x hx; ⟨c, u, a, cell_at b (keepM _ (isCell_mut b) d), hn c d (isCell_mut b).some, e⟩
    apart := F.apart
    slots := fun x md v hx => let ⟨cv, hcv, s⟩ := F.slots x md v hx
      ⟨cv, hcv, s.move k (fun a c hna hw => ⟨notV a c.mut hna, hn a hna c.some, hw⟩) fun _ a _ hna c => ⟨notV a c.mut hna, hn a hna c.some⟩⟩
    own1 := F.own1
    sepL := F.sepL
    nbL := hn _ F.nbL (by obtain ⟨m, hm, _⟩ := F.ns; exact (ns_mut hm).some)
    old := F.old
    pbf := fun a e => F.pbf a (ex a e)
    nbf := hn' }
theorem Frame.move' {V : Addr → Prop} (F : Frame prog w hb sc env pb nb lent vars val h) (k : Kp V h h') (hV : ∀ a, V a → ItOb h a ∨ ¬ nb a) (hp : ∀ a, h'.get? a = none → pb a)
    (hvb : ∀ a, V a → hb.get? a = none)
    (hn : ∀ a, nb a → h.get? a ≠ none → nb' a) (hn' : ∀ a, h'.get? a = none → nb' a) : Frame prog w hb sc env pb nb' lent vars val h' := by
  have notV : ∀ a, Mut h a → nb a → ¬ V a := fun a m n v => (hV a v).elim (ItOb.not m) fun q => q n
  have keepM : ∀ a, Mut h a → nb a → ∀ o, h.get? a = some o → h'.get? a = some o := fun a m n o e => k a o e (.inl (notV a m n))
  exact {
    base := fun a o e => k a o (F.base a o e) (.inl fun v => by rw [hvb a v] at e; cases e)
    glob := F.glob
    blt := F.blt
    kind := F.kind
    kok := F.kok
    ns := let ⟨m, hm, r⟩ := F.ns; ⟨m, hm.at' (keepM _ (ns_mut hm) F.nbL), r⟩
    cel := fun x hx => let ⟨c, u, a, b, d, e⟩ := F.cel x hx; ⟨c, u, a, cell_at b (keepM _ (isCell_mut b) d), hn c d (isCell_mut b).some, e⟩
    apart := F.apart
    slots := fun x md v hx => let ⟨cv, hcv, s⟩ := F.slots x md v hx
      ⟨cv, hcv, s.move k (fun a c hna hw => ⟨notV a c.mut hna, hn a hna c.some, hw⟩) fun _ a _ hna c => ⟨notV a c.mut hna, hn a hna c.some⟩⟩
    own1 := F.own1
    sepL := F.sepL
    nbL := hn _ F.nbL (by obtain ⟨m, hm, _⟩ := F.ns; exact (ns_mut hm).some)
    old := F.old
    pbf := hp
    nbf := hn' }

theorem none_of_stays (st : h.StaysIn h') {a : Addr} (e : h'.get? a = none) : h.get? a = none := by
  cases q : h.get? a with
  | none => rfl
  | some o => rw [st a o q] at e; cases e
theorem Frame.stays (F : Frame prog w hb sc env pb nb lent vars val h) (st : h.StaysIn h') : Frame prog w hb sc env pb nb lent vars val h' :=
  F.move (V := fun _ => False) (Kp.of_stays st) (fun _ f => f.elim) (fun _ => none_of_stays st) (fun _ f => f.elim) (fun _ x _ => x) fun a e => F.nbf a (none_of_stays st e)
theorem Frame.narrow (F : Frame prog w hb sc env pb nb lent vars val h) (st : h.StaysIn h') (hn : ∀ a, nb a → h.get? a ≠ none → nb' a) (hn' : ∀ a, h'.get? a = none → nb' a) : Frame prog w hb sc env pb nb' lent vars val h' :=
  F.move (V := fun _ => False) (Kp.of_stays st) (fun _ f => f.elim) (fun _ => none_of_stays st) (fun _ f => f.elim) hn hn'
theorem Reads.stays {pub : Pubs} (R : Reads prog w hb sc env pub vars h) (st : h.StaysIn h') : Reads prog w hb sc env pub vars h' where
  base := stays_trans R.base st
  glob := R.glob
  blt := R.blt
  kind := R.kind
  kok := R.kok
  cel := fun x hx => let ⟨c, u, a, b⟩ := R.cel x hx; ⟨c, u, a, b.keeps st⟩
  vars := by
    obtain ⟨m, hn, r⟩ := R.vars
    refine ⟨m, hn.keeps st, fun x md v hx => ?_⟩
    obtain ⟨cv, h1, h2, h3, h4⟩ := r x md v hx
    exact ⟨cv, h1.stays st fun _ x => x, fun e => (h2 e).stays st fun _ x => x, h3, fun e => let ⟨c, a, b⟩ := h4 e; ⟨c, a, b.keeps st⟩⟩

structure Adv (W : Addr → Prop) (h : Heap) (W' : Addr → Prop) (h' : Heap) : Prop where
  kp : Kp W h h'
  ex : ∀ a, h'.get? a = none → h.get? a = none ∨ W a
  wr : ∀ a, W' a → W a ∨ h.get? a = none
theorem Adv.stays {W : Addr → Prop} (st : h.StaysIn h') : Adv W h W h' := ⟨Kp.of_stays st, fun _ e => .inl (none_of_stays st e), fun _ => .inl⟩
theorem Adv.refl (W : Addr → Prop) (h : Heap) : Adv W h W h := .stays (stays_refl h)
theorem Adv.trans {W W₁ W₂ : Addr → Prop} {h₁ h₂ : Heap} (a : Adv W h W₁ h₁) (b : Adv W₁ h₁ W₂ h₂) : Adv W h W₂ h₂ where
  kp := fun x o e q => b.kp x o (a.kp x o e q) (q.imp (fun n y => (a.wr x y).elim n fun z => by rw [z] at e; cases e) id)
  ex := fun x e => (b.ex x e).elim (a.ex x) fun w => (a.wr x w).elim .inr .inl
  wr := fun x y => (b.wr x y).elim (a.wr x) fun z => (a.ex x z).elim .inr .inl
theorem Adv.weaken {W W' V V' : Addr → Prop} (a : Adv W h W' h') (s : ∀ x, W x → V x) (t : ∀ x, V' x → W' x) : Adv V h V' h' :=
  ⟨a.kp.mono s, fun x e => (a.ex x e).imp id (s x), fun x y => (a.wr x (t x y)).imp (s x) id⟩
end
end Mine

namespace Mine
open PySem PySem.Calls PyProof.Rows PySem.W PySem.SeqAt

section
variable {prog : Program} {w : World} {hb h h' : Heap} {sc : Scope} {env : Env} {pb nb nb' nb₀ ok ok' : Addr → Prop} {lent : Addr} {vars : Vars} {val : Str → Option Value} {M : Model} {A : Around}

noncomputable def setF (val : Str → Option Value) (x : Str) (cv : Value) : Str → Option Value := fun y => if y = x then some cv else val y

theorem kp_sameBut {c : Addr} (hs : Heap.SameBut c h h') (hc : Mut h c) (ht : ∀ o, h.get? c = some o → ¬ isTupObj o) : Kp (fun a => a = c) h h' := fun a o e q => by
  by_cases hac : a = c
  · subst hac
    exact (q.elim (fun n => (n rfl).elim) fun t => (ht o e t).elim)
  · exact (hs.2 a hac).trans e
theorem sameBut_ex {c : Addr} (hs : Heap.SameBut c h h') (hc : h'.get? c ≠ none) : ∀ a, h'.get? a = none → h.get? a = none := fun a e => by
  by_cases hac : a = c
  · subst hac; exact absurd e hc
  · rw [← hs.2 a hac]; exact e
theorem ns_notTup {a : Addr} {m} (x : h.Ns a m) : ∀ o, h.get? a = some o → ¬ isTupObj o := fun o e t => by
  obtain ⟨o', es, ep, ho', hd', _⟩ := x
  rw [e] at ho'; cases ho'
  obtain ⟨_, xs, n, q⟩ := t
  rw [hd'] at q; cases q
theorem cell_notTup {a : Addr} {v} (x : h.IsCell a v) : ∀ o, h.get? a = some o → ¬ isTupObj o := fun o e t => by
  obtain ⟨o', ho', hd'⟩ := x
  rw [e] at ho'; cases ho'
  obtain ⟨_, xs, n, q⟩ := t
  rw [hd'] at q; cases q

noncomputable def NewSlot (prog : Program) (w : World) (hb h : Heap) (pb nb nb₀ W : Addr → Prop) (md : Mode) (v : PV) (cv : Value) : Prop :=
  (md = .P ∧ VRep prog w h (fun a => (pb a ∧ nb a) ∧ ¬ W a) v cv) ∨
  (md = .O ∧ okItems v = true ∧ ∃ a, cv = .ref a ∧ VRep prog w h (fun b => b = a) v cv ∧ pb a ∧ nb a ∧ ¬ nb₀ a ∧ hb.get? a = none)

theorem look_isSome {x y : Str} {s : Mode × PV} (hxy : y ≠ x) : look y (setV x s vars) = look y vars := by
  rw [look_setV, if_neg (Ne.symm hxy)]

theorem Frame.set {x : Str} {md : Mode} {v : PV} {cv : Value} {c : Addr} (F : Frame prog w hb sc env pb nb₀ lent vars val h)
    (hcW : Wr sc env vars val c) (hs : Heap.SameBut c h h') (hct : ∀ o, h.get? c = some o → ¬ isTupObj o) (hc' : h'.get? c ≠ none)
    (hns : ∃ m, h'.Ns env.locals m ∧ ∀ y u, kindIn y sc.names = some .local → (look y (setV x (md, v) vars)).isSome = true → setF val x cv y = some u → m y = some u)
    (hcel : ∀ y, kindIn y sc.names = some .cell ∨ kindIn y sc.names = some .free → ∃ c u, env.cells.lookup y = some c ∧ h'.IsCell c u ∧ nb₀ c ∧ ∀ z, (look y (setV x (md, v) vars)).isSome = true → setF val x cv y = some z → u = some z)
    (hc0 : c = env.locals ∨ ∃ u, h.IsCell c u)
    (hnb : ∀ a, nb₀ a → nb a) (hsl : NewSlot prog w hb h pb nb nb₀ (Wr sc env vars val) md v cv) :
    Frame prog w hb sc env pb nb lent (setV x (md, v) vars) (setF val x cv) h' := by
  have hW : ∀ a, Wr sc env (setV x (md, v) vars) (setF val x cv) a → Wr sc env vars val a ∨ (md = .O ∧ cv = .ref a) := by
    rintro a (rfl | hx | ⟨y, my, vy, hy, hm, hv⟩)
    · exact .inl (.inl rfl)
    · exact .inl (.inr (.inl hx))
    · by_cases hyx : y = x
      · subst hyx
        rw [look_setV, if_pos rfl] at hy; cases hy
        have : cv = .ref a := by simpa [setF] using hv
        rcases hsl with ⟨rfl, _⟩ | ⟨rfl, _⟩
        · cases hm
        · exact .inr ⟨rfl, this⟩
      · rw [look_isSome hyx] at hy
        exact .inl (.inr (.inr ⟨y, my, vy, hy, hm, by simpa [setF, hyx] using hv⟩))
  have hWn : ∀ a, Wr sc env (setV x (md, v) vars) (setF val x cv) a → nb₀ a → Wr sc env vars val a := fun a ha hn => (hW a ha).elim id fun q => by
    rcases hsl with ⟨rfl, _⟩ | ⟨_, _, a', e, _, _, _, hn', _⟩
    · cases q.1
    · have := q.2.symm.trans e; cases this; exact absurd hn hn'
  have kp := kp_sameBut hs (F.wr_mut hcW) hct
  have notc : ∀ a, Cont h a → a ≠ env.locals → a ≠ c := fun a ha hl e => by
    subst e
    rcases hc0 with rfl | ⟨u, hu⟩
    · exact hl rfl
    · exact cell_cont hu ha
  exact {
    base := fun a o e => by
      have : a ≠ c := by rintro rfl; rw [F.old _ hcW] at e; cases e
      rw [hs.2 a this]; exact F.base a o e
    glob := F.glob
    blt := F.blt
    kind := F.kind
    kok := F.kok
    ns := hns
    cel := fun y hy => let ⟨c', u, a, b, d, e⟩ := hcel y hy; ⟨c', u, a, b, hnb _ d, e⟩
    apart := F.apart
    slots := fun y my vy hy => by
      by_cases hyx : y = x
      · subst hyx
        rw [look_setV, if_pos rfl] at hy; cases hy
        refine ⟨cv, by simp [setF], ?_⟩
        rcases hsl with ⟨rfl, r⟩ | ⟨rfl, hi, a, rfl, r, hp, hn, hn0, ho⟩
        · refine VRep.kp kp (fun a o => ⟨?_, o.1, fun q => (hW a q).elim o.2 fun q => by cases q.1⟩) r
          rintro rfl; exact o.2 hcW
        · refine ⟨hi, a, rfl, r.here.kp kp fun b o => ⟨?_, o.1⟩, hp, hn⟩
          obtain ⟨rfl, hb'⟩ := o
          exact notc b hb' fun e => hn0 (e ▸ F.nbL)
      · rw [look_isSome hyx] at hy
        obtain ⟨u, hu, s⟩ := F.slots y my vy hy
        refine ⟨u, by simpa [setF, hyx] using hu, s.move kp (fun a ha hna hw => ⟨?_, hnb a hna, fun q => hw (hWn a q hna)⟩) fun hm a e hna ha => ⟨?_, hnb a hna⟩⟩
        · rintro rfl; exact hw hcW
        · exact notc a ha fun q => F.sepL y my vy hy hm (by rw [hu, e, q])
    own1 := fun y z my vy mz vz a hy hmy hz hmz hvy hvz => by
      have clash : ∀ y my vy, y ≠ x → look y (setV x (md, v) vars) = some (my, vy) → ownM my = true → setF val x cv y = some (.ref a) → md = .O → cv = .ref a → False := fun y my vy hyx hy hmy hvy e1 e2 => by
        rw [look_isSome hyx] at hy
        rcases hsl with ⟨rfl, _⟩ | ⟨_, _, a', e, _, _, _, hn', _⟩
        · cases e1
        · have := e2.symm.trans e; cases this
          obtain ⟨u, hu, s⟩ := F.slots y my vy hy
          have hvy' : val y = some (.ref a) := by simpa [setF, hyx] using hvy
          rw [hu] at hvy'; cases hvy'
          obtain ⟨_, b, e3, _, hn⟩ := s.own hmy
          cases e3; exact hn' hn
      have isO : ∀ my vy, look x (setV x (md, v) vars) = some (my, vy) → ownM my = true → md = .O := fun my vy hy hm => by
        rw [look_setV, if_pos rfl] at hy; cases hy
        rcases hsl with ⟨rfl, _⟩ | ⟨rfl, _⟩
        · cases hm
        · rfl
      by_cases hyx : y = x
      · by_cases hzx : z = x
        · rw [hyx, hzx]
        · subst hyx
          exact (clash z mz vz hzx hz hmz hvz (isO _ _ hy hmy) (by simpa [setF] using hvy)).elim
      · by_cases hzx : z = x
        · subst hzx
          exact (clash y my vy hyx hy hmy hvy (isO _ _ hz hmz) (by simpa [setF] using hvz)).elim
        · rw [look_isSome hyx] at hy
          rw [look_isSome hzx] at hz
          exact F.own1 y z my vy mz vz a hy hmy hz hmz (by simpa [setF, hyx] using hvy) (by simpa [setF, hzx] using hvz)
    sepL := fun y my vy hy hm hv => by
      by_cases hyx : y = x
      · subst hyx
        rw [look_setV, if_pos rfl] at hy; cases hy
        rcases hsl with ⟨rfl, _⟩ | ⟨rfl, hi, a, rfl, r, hp, hn, hn0, ho⟩
        · cases hm
        · have : a = env.locals := by simpa [setF] using hv
          exact hn0 (this ▸ F.nbL)
      · rw [look_isSome hyx] at hy
        exact F.sepL y my vy hy hm (by simpa [setF, hyx] using hv)
    nbL := hnb _ F.nbL
    old := fun a q => (hW a q).elim (F.old a) fun q => by
      rcases hsl with ⟨rfl, _⟩ | ⟨_, _, a', e, _, _, _, _, ho⟩
      · cases q.1
      · have := q.2.symm.trans e; cases this; exact ho
    pbf := fun a e => F.pbf a (sameBut_ex hs hc' a e)
    nbf := fun a e => hnb a (F.nbf a (sameBut_ex hs hc' a e)) }

theorem Frame.set_wr {x : Str} {md : Mode} {v : PV} {cv : Value} {W : Addr → Prop} (hsl : NewSlot prog w hb h pb nb nb₀ W md v cv) :
    ∀ a, Wr sc env (setV x (md, v) vars) (setF val x cv) a → Wr sc env vars val a ∨ (md = .O ∧ cv = .ref a) := by
  rintro a (rfl | hx | ⟨y, my, vy, hy, hm, hv⟩)
  · exact .inl (.inl rfl)
  · exact .inl (.inr (.inl hx))
  · by_cases hyx : y = x
    · subst hyx
      rw [look_setV, if_pos rfl] at hy; cases hy
      have : cv = .ref a := by simpa [setF] using hv
      rcases hsl with ⟨rfl, _⟩ | ⟨rfl, _⟩
      · cases hm
      · exact .inr ⟨rfl, this⟩
    · rw [look_isSome hyx] at hy
      exact .inl (.inr (.inr ⟨y, my, vy, hy, hm, by simpa [setF, hyx] using hv⟩))

theorem Frame.store {x : Str} {md : Mode} {v : PV} {cv : Value} {s : Shared} {Q : Unit → Shared → Prop} {E : Value → Shared → Prop} (F : Frame prog w hb sc env pb nb₀ lent vars val s.heap) (hx : ownK sc x = true)
    (hnb : ∀ a, nb₀ a → nb a) (hsl : NewSlot prog w hb s.heap pb nb nb₀ (Wr sc env vars val) md v cv)
    (q : ∀ h' tk, Frame prog w hb sc env pb nb lent (setV x (md, v) vars) (setF val x cv) h' → Kp (Wr sc env vars val) s.heap h' → (∀ a, h'.get? a = none → s.heap.get? a = none) → Q () { s with heap := h', toks := tk }) :
    wpAny M A (storeName env x cv) Q E s := by
  unfold ownK at hx
  split at hx
  · rename_i hk
    obtain ⟨m, hn, hm⟩ := F.ns
    have hl : env.kindOf x = some .local := (F.kok x _ hk).elim id fun e => by cases e.1
    refine wpAny_storeName_local hl hn (fun h' hn' hs' => ?_) (by rw [F.kind]; rfl)
    have hW : Wr sc env vars val env.locals := .inl rfl
    refine q h' _ ?_ ((kp_sameBut hs' (ns_mut hn) (ns_notTup hn)).mono fun a e => by rw [e]; exact hW) (sameBut_ex hs' (ns_mut hn').some)
    refine F.set hW hs' (ns_notTup hn) (ns_mut hn').some ⟨_, hn', fun y u hy hl' hu => ?_⟩ (fun y hy => ?_) (.inl rfl) hnb hsl
    · by_cases hyx : y = x
      · subst hyx; simpa [setF] using hu
      · simp only [hyx, if_false]
        exact hm y u hy (by rw [look_isSome hyx] at hl'; exact hl') (by simpa [setF, hyx] using hu)
    · have hyx : y ≠ x := by rintro rfl; rw [hk] at hy; simp at hy
      obtain ⟨c, u, h1, h2, h3, h4⟩ := F.cel y hy
      refine ⟨c, u, h1, h2.sameBut hs' fun e => ?_, h3, fun z hz hv => h4 z (by rwa [look_isSome hyx] at hz) (by simpa [setF, hyx] using hv)⟩
      subst e; exact cell_ns h2 hn
  · rename_i hk
    have hl : env.kindOf x = some .cell := (F.kok x _ hk).elim id fun e => by cases e.1
    obtain ⟨c, u, h1, h2, h3, h4⟩ := F.cel x (.inl hk)
    refine wpAny_storeName_cell F.kind hl h1 h2 fun h' hc' hs' => ?_
    have hW : Wr sc env vars val c := .inr (.inl ⟨x, hk, h1⟩)
    refine q h' s.toks ?_ ((kp_sameBut hs' (isCell_mut h2) (cell_notTup h2)).mono fun a e => by rw [e]; exact hW) (sameBut_ex hs' (isCell_mut hc').some)
    obtain ⟨m, hn, hm⟩ := F.ns
    refine F.set hW hs' (cell_notTup h2) (isCell_mut hc').some ⟨m, hn.sameBut hs' fun e => ?_, fun y u hy hl' hu => ?_⟩ (fun y hy => ?_) (.inr ⟨u, h2⟩) hnb hsl
    · subst e; exact cell_ns h2 hn
    · have hyx : y ≠ x := by rintro rfl; rw [hk] at hy; cases hy
      exact hm y u hy (by rwa [look_isSome hyx] at hl') (by simpa [setF, hyx] using hu)
    · by_cases hyx : y = x
      · subst hyx
        exact ⟨c, some cv, h1, hc', h3, fun z _ hv => by simpa [setF] using hv⟩
      · obtain ⟨c2, u2, g1, g2, g3, g4⟩ := F.cel y hy
        refine ⟨c2, u2, g1, g2.sameBut hs' fun e => ?_, g3, fun z hz hv => g4 z (by rwa [look_isSome hyx] at hz) (by simpa [setF, hyx] using hv)⟩
        subst e; exact hyx (F.apart x y _ hk hy h1 g1).symm
  · cases hx

theorem Reads.load {pub : Pubs} {x : Str} {md : Mode} {v : PV} {s : Shared} (R : Reads prog w hb sc env pub vars s.heap) (hx : look x vars = some (md, v))
    (hk : kindIn x sc.names = some .local ∨ kindIn x sc.names = some .cell ∨ kindIn x sc.names = some .free) (hd : x ≠ "__classdict__") :
    ∃ cv, VRep prog w s.heap pub.nw v cv ∧ (md = .P → VRep prog w s.heap pub.p v cv) ∧ ∀ (E : Value → Shared → Prop) (Q : Value → Shared → Prop), Q cv s → wpAny M A (loadName env x) Q E s := by
  obtain ⟨m, hn, r⟩ := R.vars
  obtain ⟨cv, h1, h2, h3, h4⟩ := r x md v hx
  refine ⟨cv, h1, h2, fun E Q q => ?_⟩
  have hd' : (x == ("__classdict__" : Str)) = false := by simpa using hd
  rcases hk with hk | hk | hk
  · exact wpAny_loadName_local R.kind ((R.kok x _ hk).elim id fun e => by cases e.1) hn (h3 hk) q
  · obtain ⟨c, hc, hi⟩ := h4 (.inl hk)
    exact wpAny_loadName_cell R.kind ((R.kok x _ hk).elim id fun e => by cases e.1) hc hi q
  · obtain ⟨c, hc, hi⟩ := h4 (.inr hk)
    rcases R.kok x _ hk with e | ⟨_, e⟩
    · exact wpAny_loadName_free R.kind e hc hi q hd'
    · exact wpAny_loadName_cell R.kind e hc hi q
end
end Mine

namespace Mine
open PySem PySem.Calls PyProof.Rows PySem.W PySem.SeqAt

noncomputable def biVal : BI → Value
  | .len => .builtin "len"
  | .abs => .builtin "abs"
  | .min => .builtin "min"
  | .max => .builtin "max"
  | .sum => .builtin "sum"
  | .sorted => .builtin "sorted"
  | .list => .type "list"
  | .tuple => .type "tuple"
  | .dict => .type "dict"
  | .range => .type "range"
  | .enumerate => .type "enumerate"
  | .isinstance => .builtin "isinstance"

noncomputable def ConstRep : PV → Value → Prop
  | .none, v => v = .none
  | .int i, v => ∃ t, v = .int i t
  | _, _ => False
inductive Bound : Vars → List (Mode × PV) → List Value → List (Str × Value) → Prop
  | nil : Bound [] [] [] []
  | arg {x : Str} {a : Mode × PV} {v : Value} {vars : Vars} {as : List (Mode × PV)} {vs : List Value} {bs : List (Str × Value)} (r : Bound vars as vs bs) : Bound ((x, a) :: vars) (a :: as) (v :: vs) ((x, v) :: bs)
  | dflt {x : Str} {d : PV} {v : Value} {vars : Vars} {bs : List (Str × Value)} (c : ConstRep d v) (r : Bound vars [] [] bs) : Bound ((x, .P, d) :: vars) [] [] ((x, v) :: bs)

structure FnAt (hb : Heap) (a : Addr) (fn : Fn) : Prop where
  fd : ∃ o fd, hb.get? a = some o ∧ o.data = .func fd ∧ fd.globals = mainGlobals ∧ fd.builtins = builtinsNs ∧ fd.closure = [] ∧ fd.body = .stmts fn.body ∧ fd.scope = fn.scope ∧
    hb.CodeRec fd.code fd.qualname ∧
    ∀ as vals vars s, hb.StaysIn s.heap → as.length = vals.length → bindArgsV fn.params as fn.dflts = some vars → ∃ binds, BindsTo s fd ⟨vals, []⟩ binds ∧ Bound vars as vals binds
  kind : fn.scope.kind = .function
  co : fn.scope.isCoroutine = false
  gen : fn.scope.isGenerator = false
  apart : (fn.scope.names.map (·.1)).Nodup
  nofree : ∀ x ∈ fn.scope.names, x.2 ≠ .free
  own : ∀ as vars, bindArgsV fn.params as fn.dflts = some vars → (∀ x ∈ vars, ownK fn.scope x.1 = true) ∧ (vars.map (·.1)).Nodup

structure Glob (T : Tab) (hb : Heap) : Prop where
  ns : ∃ mg mb, hb.Ns mainGlobals mg ∧ hb.Ns builtinsNs mb ∧ (∀ x b, biOf x = some b → mg x = none ∧ mb x = some (biVal b)) ∧
    ∀ x fn, tabLook x T = some fn → (x == ("__debug__" : Str)) = false ∧ ∃ a, mg x = some (.ref a) ∧ FnAt hb a fn
  nolimit : hb.NoLimit

structure Room (A : Around) (n : Nat) : Prop where
  h : A.handled = none
  d : A.depth + n + 5 ≤ recursionLimit
  u : A.units + 4 * n + 100 ≤ cLine
theorem Room.le {A : Around} {n m : Nat} (r : Room A n) (h : m ≤ n) : Room A m := ⟨r.h, by have := r.d; (first | lia | omega), by have := r.u; (first | lia | omega)⟩
theorem Room.pred {A : Around} {n : Nat} (r : Room A (n + 1)) : Room A n := r.le (Nat.le_succ n)
theorem Room.deeper {A : Around} {n : Nat} {env : Env} (r : Room A (n + 1)) : Room (A.deeper env) n := ⟨r.h, by have := r.d; show A.depth + 1 + n + 5 ≤ _; (first | lia | omega), by have := r.u; show A.units + 3 + 4 * n + 100 ≤ _; (first | lia | omega)⟩

noncomputable def Oks (p : Bool) (pub : Pubs) : (Addr → Prop) → Prop := fun ok => ok = (fun _ => True) ∨ ok = pub.nw ∨ (p = true ∧ ok = pub.p)
theorem Oks.T {p : Bool} {pub : Pubs} : Oks p pub fun _ => True := .inl rfl
theorem Oks.N {p : Bool} {pub : Pubs} : Oks p pub pub.nw := .inr (.inl rfl)
theorem Oks.P {pub : Pubs} : Oks true pub pub.p := .inr (.inr ⟨rfl, rfl⟩)

inductive ArgsF (Sl : Mode → PV → Value → Prop) : List (Mode × PV) → List Value → Prop
  | nil : ArgsF Sl [] []
  | cons {md : Mode} {v : PV} {cv : Value} {as : List (Mode × PV)} {vs : List Value} (a : Sl md v cv) (r : ArgsF Sl as vs) : ArgsF Sl ((md, v) :: as) (cv :: vs)
inductive VsRep (prog : Program) (w : World) (h : Heap) (pub : Pubs) : List (Bool × PV) → List Value → Prop
  | nil : VsRep prog w h pub [] []
  | cons {p : Bool} {v : PV} {cv : Value} {l : List (Bool × PV)} {cs : List Value} (a : ∀ ok, Oks p pub ok → VRep prog w h ok v cv) (r : VsRep prog w h pub l cs) : VsRep prog w h pub ((p, v) :: l) (cv :: cs)
section
variable (prog : Program) (w : World) (T : Tab) (hb : Heap)

noncomputable def EOk (n : Nat) : Prop := ∀ A sc env vars (pub : Pubs) s e p v, Room A n → xE T n sc vars e = some (p, v) → Reads prog w hb sc env pub vars s.heap → (∀ b, s.heap.get? b = none → pub.p b) →
  Gets prog w A s (eval e env) (Oks p pub) v
noncomputable def OOk (n : Nat) : Prop := ∀ A sc env vars (pub : Pubs) s e v, Room A n → xO T n sc vars e = some v → Reads prog w hb sc env pub vars s.heap → (∀ b, s.heap.get? b = none → pub.p b) →
  match v with
  | some v => Gets prog w A s (evalPart e env) (Oks false pub) v
  | none => e = none
noncomputable def EsOk (n : Nat) : Prop := ∀ A sc env vars (pub : Pubs) s es vs, Room A n → xEs T n sc vars es = some vs → Reads prog w hb sc env pub vars s.heap → (∀ b, s.heap.get? b = none → pub.p b) →
  ∀ pos (E : Value → Shared → Prop) (Q : List Value → Shared → Prop), (∀ cs h' tk, s.heap.StaysIn h' → VsRep prog w h' pub vs cs → Q cs { s with heap := h', toks := tk }) →
    wpAny (model prog w) A (spliced (backTo pos (starEach es env))) Q E s
noncomputable def BoolsOk (n : Nat) : Prop := ∀ A sc env vars (pub : Pubs) s op es b, Room A n → xBools T n sc vars op es = some b → Reads prog w hb sc env pub vars s.heap → (∀ b, s.heap.get? b = none → pub.p b) →
  ∀ pos, Gets prog w A s (boolOp pos op (evalEach es env)) (Oks true pub) (.bool b)
noncomputable def Says (A : Around) (s : Shared) (t : Sem Bool) (b : Bool) : Prop := ∀ (E : Value → Shared → Prop) (Q : Bool → Shared → Prop), (∀ h' tk, s.heap.StaysIn h' → Q b { s with heap := h', toks := tk }) → wpAny (model prog w) A t Q E s
noncomputable def TOk (n : Nat) : Prop := ∀ A sc env vars (pub : Pubs) s e b, Room A n → xT T n sc vars e = some b → Reads prog w hb sc env pub vars s.heap → (∀ b, s.heap.get? b = none → pub.p b) →
  Says prog w A s (isTrue e env (eval e env)) b
noncomputable def TsOk (n : Nat) : Prop := ∀ A sc env vars (pub : Pubs) s op es b, Room A n → xTs T n sc vars op es = some b → Reads prog w hb sc env pub vars s.heap → (∀ b, s.heap.get? b = none → pub.p b) →
  Says prog w A s (allTrue op es env) b ∧ (op = .And → Says prog w A s (forIn es true fun c r => if r = true then do let ok ← isTrue c env (eval c env); pure (ForInStep.yield ok) else pure (ForInStep.yield r)) b)
noncomputable def ChainOk (n : Nat) : Prop := ∀ A sc env vars (pub : Pubs) s a ops rs b ca, Room A n → xChain T n sc vars a ops rs = some b → Reads prog w hb sc env pub vars s.heap → (∀ b, s.heap.get? b = none → pub.p b) →
  VRep prog w s.heap (fun _ => True) a ca → ∀ pos, Gets prog w A s (compareChain pos ca ops (evalEach rs env)) (Oks true pub) (.bool b) ∧ Says prog w A s (testChain pos ca ops (evalEach rs env)) b

structure Turns (A : Around) (target : Expr) (I : Addr) (pi : Addr → Prop) (wr dep : Addr → Prop) (its : List PV) (St : Nat → Heap → Prop) : Prop where
  frame : ∀ (V : Addr → Prop) i h h', (∀ a, pi a → ¬ V a) → (∀ a, wr a → ¬ V a) → (∀ a, dep a → ¬ V a) → Kp V h h' → St i h → St i h'
  it : ∀ i h a, St i h → wr a → ItOb h a
  item : ∀ i x (s : Shared) (E : Value → Shared → Prop) (Q : Value → Shared → Prop), its[i]? = some x → St i s.heap →
    (∀ v h' tk, VRep prog w h' pi x v → St (i + 1) h' → (∀ b o, ¬ wr b → s.heap.get? b = some o → h'.get? b = some o) → Q v { s with heap := h', toks := tk }) →
    wpAny (model prog w) A (pyNext (.ref I)) (fun r s₁ => ∃ v, r = some v ∧ wpAny (model prog w) A (letOwnedTupleGo target (.ref I) v) (fun _ s₂ => Q v s₂) E s₁) E s
  done : ∀ (s : Shared) (E : Value → Shared → Prop) (Q : Option Value → Shared → Prop), St its.length s.heap →
    (∀ h' tk, (∀ b o, ¬ wr b → s.heap.get? b = some o → h'.get? b = some o) → Q none { s with heap := h', toks := tk }) → wpAny (model prog w) A (pyNext (.ref I)) Q E s
  self : ∀ i (s : Shared) (E : Value → Shared → Prop) (Q : Value → Shared → Prop), St i s.heap → Q (.ref I) s → wpAny (model prog w) A (pyIter (.ref I)) Q E s

noncomputable def Pack (A : Around) (s : Shared) (target : Expr) (pub dk : Addr → Prop) (its : List PV) (it : Value) (s' : Shared) : Prop :=
  ∃ I wr dep St h' tk, it = .ref I ∧ s' = { s with heap := h', toks := tk } ∧ s.heap.StaysIn h' ∧ Turns prog w A target I (fun a => pub a ∧ h'.get? a ≠ none) wr dep its St ∧ St 0 h' ∧
    (∀ a, wr a → s.heap.get? a = none) ∧ (∀ a, dep a → h'.get? a ≠ none ∧ (s.heap.get? a = none ∨ dk a))

noncomputable def IterOk (n : Nat) : Prop := ∀ A sc env vars (pub : Pubs) s target tup e its, Room A n → xIter T n sc vars tup e = some its → (tup = true → isTupT target = true) → Reads prog w hb sc env pub vars s.heap → (∀ b, s.heap.get? b = none → pub.p b) →
  ∀ (E : Value → Shared → Prop) (Q : Value → Shared → Prop), (∀ it s', Pack prog w A s target pub.p pub.nw its it s' → Q it s') → wpAny (model prog w) A (eval e env) (fun cv s₁ => wpAny (model prog w) A (pyIter cv) Q E s₁) E s
noncomputable def IterSOk (n : Nat) : Prop := ∀ A sc env pb nb lent vars val s target tup e its, Room A n → xIterS T n sc vars tup e = some its → (tup = true → isTupT target = true) → Frame prog w hb sc env pb nb lent vars val s.heap →
  ∀ (E : Value → Shared → Prop) (Q : Value → Shared → Prop), (∀ it s', Pack prog w A s target (fun a => (pb a ∧ nb a) ∧ ¬ Wr sc env vars val a) (fun a => ¬ Wr sc env vars val a) its it s' → Q it s') →
    wpAny (model prog w) A (eval e env) (fun cv s₁ => wpAny (model prog w) A (pyIter cv) Q E s₁) E s
noncomputable def BIOk (n : Nat) : Prop := ∀ A sc env vars (pub : Pubs) s b args v, Room A n → xBI T n sc vars b args = some v → Reads prog w hb sc env pub vars s.heap → (∀ b, s.heap.get? b = none → pub.p b) →
  ∀ pos, Gets prog w A s (callWith pos (biVal b) [] (backTo pos (starEach args env)) []) (Oks true pub) v

noncomputable def NoOwn (vars : Vars) : Prop := ∀ x md v, look x vars = some (md, v) → ownM md = false
noncomputable def Grown (sc : Scope) (env : Env) (pb nb : Addr → Prop) (lent : Addr) (D : Addr) (ys : Array Value) (W₀ : Addr → Prop) (s : Shared) (out : List PV) (vars' : Vars) (s' : Shared) : Prop :=
  ∃ h' tk val' zs, s' = { s with heap := h', toks := tk } ∧ Frame prog w hb sc env pb nb lent vars' val' h' ∧ NoOwn vars' ∧ h'.PlainList D (ys ++ zs) ∧ VAll prog w h' (fun a => (pb a ∧ nb a) ∧ ¬ Wc sc env a) out zs.toList ∧
    Kp W₀ s.heap h' ∧ (∀ a, h'.get? a = none → s.heap.get? a = none ∨ W₀ a)

noncomputable def emitTree (e elt : Expr) (gens : List Comprehension) (depth : Nat) (acc : Value) (env : Env) (k : Sem Fin) : Sem Fin :=
  match gens[depth + 1]? with
  | some g' => do
    let x ← eval g'.iter env
    standAt g'.iter.pos
    let x ← if g'.is_async != 0 then foldedIterable g'.iter x else foldedSetIterable g'.iter env x
    let _ ← runOwn (.compStart e (depth + 1) (← holding [x] (if g'.is_async != 0 then asyncIter x else pyIter x)) acc env) env
    k
  | none => (eval elt env >>= fun x => call (.builtin "list.append") [acc, x] >>= fun _ => pure ()) >>= fun (_ : Unit) => k

noncomputable def EltOk (n : Nat) : Prop := ∀ A sc env pb nb lent vars val s elt gens scope0 pos0 depth rest D ys out vars', Room A n → xElt T n sc vars rest elt = some (out, vars') → gens.drop (depth + 1) = rest →
  Frame prog w hb sc env pb nb lent vars val s.heap → NoOwn vars → s.heap.PlainList D ys → ¬ nb D → ys.size + out.length ≤ 1000000 → hb.get? D = none → ∀ (k : Sem Fin) (E : Value → Shared → Prop) (Q : Fin → Shared → Prop),
  (∀ s', Grown prog w hb sc env pb nb lent D ys (fun a => Wc sc env a ∨ a = D) s out vars' s' → wpAny (model prog w) A k Q E s') → wpAny (model prog w) A (emitTree (.ListComp elt gens scope0 pos0) elt gens depth (.ref D) env k) Q E s
noncomputable def CompOk (n : Nat) : Prop := ∀ A sc env pb nb lent vars val s target iter ifs elt gens scope0 pos0 depth rest D ys out vars' I pi wr dep its St i, Room A n → xComp T n sc vars target ifs rest elt (its.drop i) = some (out, vars') →
  gens[depth]? = some ⟨target, iter, ifs, 0⟩ → gens.drop (depth + 1) = rest →
  Frame prog w hb sc env pb nb lent vars val s.heap → NoOwn vars → s.heap.PlainList D ys → ¬ nb D → ys.size + out.length ≤ 1000000 →
  Turns prog w A target I pi wr dep its St → St i s.heap → i ≤ its.length → (∀ a, pi a → (pb a ∧ nb a) ∧ ¬ Wc sc env a) → (∀ a, wr a → ¬ Wc sc env a ∧ a ≠ D) → (∀ a, dep a → ¬ Wc sc env a ∧ a ≠ D) → (∀ a, wr a → hb.get? a = none) → hb.get? D = none → (∀ a, wr a → pb a ∧ nb a) →
  ∀ (R : Result → Shared → Prop), (∀ s', Grown prog w hb sc env pb nb lent D ys (fun a => Wc sc env a ∨ a = D ∨ wr a) s out vars' s' → R (.ok .next) s') →
    codeAny (model prog w) A (.compLoop (.ListComp elt gens scope0 pos0) depth (.ref I) (.ref D) env) R s

noncomputable def ArgsRep (h : Heap) (pub : Pubs) : List (Mode × PV) → List Value → Prop := ArgsF fun md v cv => ownM md = false ∧ VRep prog w h (fun _ => True) v cv ∧ (md = .P → VRep prog w h pub.p v cv)
noncomputable def CallOk (n : Nat) : Prop := ∀ A fn as v a s vals (pub : Pubs), Room A n → xCall T n fn as = some v → (∃ x, tabLook x T = some fn) → FnAt hb a fn → hb.StaysIn s.heap → ArgsRep prog w s.heap pub as vals → (∀ b, s.heap.get? b = none → pub.p b) →
  Gets prog w A s (call (.ref a) vals) (Oks true pub) v

noncomputable def After (sc : Scope) (env : Env) (pb nb : Addr → Prop) (lent : Addr) (W₀ : Addr → Prop) (s : Shared) (r : Res) (f : Flow) (s' : Shared) : Prop :=
  ∃ h' tk, s' = { s with heap := h', toks := tk } ∧ match r with
    | .next vars' => f = .next ∧ ∃ val', Frame prog w hb sc env pb nb lent vars' val' h' ∧ Adv W₀ s.heap (Wr sc env vars' val') h'
    | .ret v => ∃ cv, f = .ret cv ∧ VRep prog w h' (fun _ => True) v cv ∧ VRep prog w h' pb v cv ∧ Kp W₀ s.heap h' ∧ ∀ a, h'.get? a = none → s.heap.get? a = none ∨ W₀ a
noncomputable def SsOk (n : Nat) : Prop := ∀ A sc env pb nb lent vars val s body r, Room A n → xSs T n sc vars body = some r → Frame prog w hb sc env pb nb lent vars val s.heap → ∀ (E : Value → Shared → Prop) (Q : Flow → Shared → Prop),
  (∀ f s', After prog w hb sc env pb nb lent (Wr sc env vars val) s r f s' → Q f s') → wpAny (model prog w) A (execs body env) Q E s
noncomputable def SOk (n : Nat) : Prop := ∀ A sc env pb nb lent vars val s st r, Room A n → xS T n sc vars st = some r → Frame prog w hb sc env pb nb lent vars val s.heap → ∀ (E : Value → Shared → Prop) (Q : Flow → Shared → Prop),
  (∀ f s', After prog w hb sc env pb nb lent (Wr sc env vars val) s r f s' → Q f s') → wpAny (model prog w) A (exec st env) Q E s
noncomputable def WhileOk (n : Nat) : Prop := ∀ A sc env pb nb lent vars val s test body r, Room A n → xWhile T n sc vars test body = some r → Frame prog w hb sc env pb nb lent vars val s.heap → ∀ (R : Result → Shared → Prop),
  (∀ f s', After prog w hb sc env pb nb lent (Wr sc env vars val) s r f s' → R (.ok f) s') → codeAny (model prog w) A (.whileLoop test body [] env) R s
noncomputable def ForOk (n : Nat) : Prop := ∀ A sc env pb nb lent vars val s target body r I pi wr dep its St i, Room A n → xFor T n sc vars target body (its.drop i) = some r → Frame prog w hb sc env pb nb lent vars val s.heap →
  Turns prog w A target I pi wr dep its St → St i s.heap → i ≤ its.length → (∀ a, pi a → (pb a ∧ nb a) ∧ ¬ Wr sc env vars val a ∧ s.heap.get? a ≠ none) → (∀ a, wr a → ¬ Wr sc env vars val a) → (∀ a, dep a → ¬ Wr sc env vars val a ∧ s.heap.get? a ≠ none) → (∀ a, wr a → hb.get? a = none) → (∀ a, wr a → pb a ∧ nb a) →
  ∀ (R : Result → Shared → Prop), (∀ f s', After prog w hb sc env pb nb lent (fun a => Wr sc env vars val a ∨ wr a) s r f s' → R (.ok f) s') → codeAny (model prog w) A (.forLoop target (.ref I) body [] env) R s

noncomputable def SlotGot (h₀ h : Heap) (pub : Addr → Prop) (md : Mode) (v : PV) (cv : Value) : Prop :=
  (md = .P ∧ VRep prog w h pub v cv) ∨ (md = .O ∧ okItems v = true ∧ ∃ a, cv = .ref a ∧ VRep prog w h (fun b => b = a) v cv ∧ h₀.get? a = none)
noncomputable def SlotOk (n : Nat) : Prop := ∀ A sc env vars (pub : Pubs) s e md v, Room A n → xSlot T n sc vars e = some (md, v) → Reads prog w hb sc env pub vars s.heap → (∀ b, s.heap.get? b = none → pub.p b) →
  ∀ (E : Value → Shared → Prop) (Q : Value → Shared → Prop), (∀ cv h' tk, s.heap.StaysIn h' → SlotGot prog w s.heap h' pub.p md v cv → Q cv { s with heap := h', toks := tk }) → wpAny (model prog w) A (eval e env) Q E s
inductive SlotsGot (h₀ h : Heap) : (Addr → Prop) → List (Mode × PV) → List Value → List Addr → Prop
  | nil {pub : Addr → Prop} : SlotsGot h₀ h pub [] [] []
  | pub {pub : Addr → Prop} {v : PV} {cv : Value} {ss : List (Mode × PV)} {cs : List Value} {D : List Addr} (a : VRep prog w h (fun a => pub a ∧ a ∉ D) v cv) (r : SlotsGot h₀ h pub ss cs D) : SlotsGot h₀ h pub ((.P, v) :: ss) (cv :: cs) D
  | own {pub : Addr → Prop} {v : PV} {a : Addr} {ss : List (Mode × PV)} {cs : List Value} {D : List Addr} (hi : okItems v = true) (hr : VRep prog w h (fun b => b = a) v (.ref a)) (hn : h₀.get? a = none) (hd : a ∉ D)
      (r : SlotsGot h₀ h (fun b => pub b ∧ b ≠ a) ss cs D) : SlotsGot h₀ h pub ((.O, v) :: ss) (.ref a :: cs) (a :: D)
noncomputable def SlotsOk (n : Nat) : Prop := ∀ A sc env vars (pub : Pubs) s es ss, Room A n → xSlots T n sc vars es = some ss → Reads prog w hb sc env pub vars s.heap → (∀ b, s.heap.get? b = none → pub.p b) →
  ∀ pos (E : Value → Shared → Prop) (Q : List Value → Shared → Prop), (∀ cs h' tk D, s.heap.StaysIn h' → SlotsGot prog w s.heap h' pub.p ss cs D → (∀ a ∈ D, h'.get? a ≠ none) → Q cs { s with heap := h', toks := tk }) →
    wpAny (model prog w) A (spliced (backTo pos (starEach es env))) Q E s

structure Snd (n : Nat) : Prop where
  e : EOk prog w T hb n
  o : OOk prog w T hb n
  es : EsOk prog w T hb n
  bools : BoolsOk prog w T hb n
  t : TOk prog w T hb n
  ts : TsOk prog w T hb n
  chain : ChainOk prog w T hb n
  iter : IterOk prog w T hb n
  iterS : IterSOk prog w T hb n
  bi : BIOk prog w T hb n
  comp : CompOk prog w T hb n
  elt : EltOk prog w T hb n
  call : CallOk prog w T hb n
  ss : SsOk prog w T hb n
  slot : SlotOk prog w T hb n
  slots : SlotsOk prog w T hb n
  s : SOk prog w T hb n
  for_ : ForOk prog w T hb n
  while_ : WhileOk prog w T hb n
end
end Mine

namespace Mine
open PySem PySem.Calls PyProof.Rows PySem.W PySem.SeqAt

section
variable {prog : Program} {w : World} {T : Tab} {hb h : Heap} {n : Nat} {A : Around} {sc : Scope} {env : Env} {vars : Vars} {pub : Pubs} {s : Shared} {p : Bool} {v : PV}

theorem fresh_stays {h' : Heap} (F : ∀ b, h.get? b = none → pub.p b) (st : h.StaysIn h') : ∀ b, h'.get? b = none → pub.p b := fun b e => F b (none_of_stays st e)
theorem Oks.fresh (F : ∀ b, s.heap.get? b = none → pub.p b) : FreshOk s (Oks p pub) := fun ok o => by
  rcases o with rfl | rfl | ⟨_, rfl⟩
  · exact fun _ _ => trivial
  · exact fun b e => pub.sub b (F b e)
  · exact F
theorem Oks.le {p q : Bool} (h : q = true → p = true) {ok} (o : Oks q pub ok) : Oks p pub ok := o.imp id fun x => x.imp id fun x => ⟨h x.1, x.2⟩

theorem itOf {c : Value} (r : ∀ ok, Oks p pub ok → VRep prog w h ok v c) (hd : ∀ ks vs, v ≠ .dict ks vs) {q : Bool} (hq : q = true → (p || okItems v) = true) : ∀ ok, Oks q pub ok → VIt prog w h ok v c := fun ok o => by
  rcases o with rfl | rfl | ⟨hp, rfl⟩
  · exact (r _ .T).it
  · exact (r _ .N).it
  · have := hq hp
    cases p with
    | true => exact (r _ .P).it
    | false => exact (r _ .T).it_ok (by simpa using this) hd
theorem Gets.flag {t : Sem Value} {q : Bool} (g : Gets prog w A s t (Oks p pub) v) (hq : q = true → p = true ∨ v.imm = true) : Gets prog w A s t (Oks q pub) v := fun E Q k => g E Q fun cv h' tk st r => k cv h' tk st fun ok o => by
  rcases o with rfl | rfl | ⟨hp, rfl⟩
  · exact r _ .T
  · exact r _ .N
  · rcases hq hp with e | e
    · exact r _ (.inr (.inr ⟨e, rfl⟩))
    · exact imm_any e (r _ .T)
theorem intPs_nodict {a b r : PV} {f : Int → Int → Option PV} (e : intPs a b f = some r) : (∀ ks vs, a ≠ .dict ks vs) ∧ ∀ ks vs, b ≠ .dict ks vs := by
  obtain ⟨i, j, rfl, rfl, _⟩ := intPs_some e
  exact ⟨nofun, nofun⟩
theorem bin_nodict {op : Operator} {a b r : PV} (e : evalBin op a b = some r) : (∀ ks vs, a ≠ .dict ks vs) ∧ ∀ ks vs, b ≠ .dict ks vs := by
  cases op with
  | Add => exact ⟨by rintro ks vs rfl; exact noS e, by rintro ks vs rfl; cases a <;> exact noS e⟩
  | Mult =>
    refine ⟨by rintro ks vs rfl; exact noS e, ?_⟩
    rintro ks vs rfl
    cases a with
    | _ => exact noS e
  | Sub => exact intPs_nodict e
  | FloorDiv => exact intPs_nodict e
  | Mod => exact intPs_nodict e
  | _ => exact noS e

theorem e_const {c : Const} {k pos} {v : PV} (e : constV c = some v) : Gets prog w A s (eval (.Constant c k pos) env) (Oks true pub) v := by
  cases c with
  | none => cases e; exact fun E Q q => wpAny_Constant_none (q _ s.heap s.toks (stays_refl _) fun _ _ => .none)
  | bool => cases e; exact fun E Q q => wpAny_Constant_bool (q _ s.heap s.toks (stays_refl _) fun _ _ => .bool _)
  | int => cases e; exact fun E Q q => wpAny_Constant_int (q _ s.heap _ (stays_refl _) fun _ _ => .int _ _)
  | str => cases e; exact fun E Q q => wpAny_Constant_str (q _ s.heap _ (stays_refl _) fun _ _ => .str _ _ rfl)
  | _ => exact noS e

theorem readP_kind {k : Option NameKind} {sl : Option (Mode × PV)} {r : Bool × PV} (e : readP k sl = some r) : ∃ md, sl = some (md, r.2) ∧ (k = some .local ∨ k = some .cell ∨ k = some .free) ∧ (r.1 = true → md = .P ∨ r.2.imm = true) := by
  have g : ∀ {k : Option NameKind}, (sl.map fun s => (decide (s.1 = .P) || s.2.imm, s.2)) = some r → (k = some .local ∨ k = some .cell ∨ k = some .free) → ∃ md, sl = some (md, r.2) ∧ (k = some .local ∨ k = some .cell ∨ k = some .free) ∧ (r.1 = true → md = .P ∨ r.2.imm = true) := fun e hk => by
    cases sl with
    | none => exact noS e
    | some x =>
      cases (show some (decide (x.1 = .P) || x.2.imm, x.2) = some r from e)
      exact ⟨x.1, rfl, hk, fun q => (Bool.or_eq_true_iff.mp q).imp of_decide_eq_true id⟩
  cases k with
  | none => exact noS e
  | some k =>
    cases k with
    | «local» => exact g e (.inl rfl)
    | cell => exact g e (.inr (.inl rfl))
    | free => exact g e (.inr (.inr rfl))
    | _ => exact noS e
theorem oddName_no {x : Str} (h : ¬ oddName x = true) : (x == ("__debug__" : Str)) = false ∧ x ≠ "__classdict__" := by
  unfold oddName at h
  simp only [Bool.or_eq_true, not_or, Bool.not_eq_true] at h
  refine ⟨?_, fun e => ?_⟩
  · cases q : (x == ("__debug__" : Str)) with
    | false => rfl
    | true => have := strEq_iff.mpr (beq_iff_eq.mp q); rw [h.1] at this; cases this
  · have := strEq_iff.mpr e; rw [h.2] at this; cases this

theorem e_name {x : Str} {pos} (R : Reads prog w hb sc env pub vars s.heap) (ho : ¬ oddName x = true) (e : readP (kindIn x sc.names) (look x vars) = some (p, v)) : Gets prog w A s (eval (.Name x pos) env) (Oks p pub) v := by
  obtain ⟨md, hl, hk, hp⟩ := readP_kind e
  obtain ⟨hd, hc⟩ := oddName_no ho
  obtain ⟨cv, r1, r2, ld⟩ := R.load (M := model prog w) (A := A) hl hk hc
  refine fun E Q q => wpAny_Name (ld E Q (q cv s.heap s.toks (stays_refl _) fun ok o => ?_)) hd
  rcases o with rfl | rfl | ⟨hp', rfl⟩
  · exact r1.weaken fun _ _ => trivial
  · exact r1
  · rcases hp hp' with e | e
    · exact r2 e
    · exact imm_any e r1

theorem e_bin (ih : Snd prog w T hb n) {l r : Expr} {op : Operator} {pos} {a b : Bool × PV} (rm : Room A n) (R : Reads prog w hb sc env pub vars s.heap) (F : ∀ b, s.heap.get? b = none → pub.p b)
    (ha : xE T n sc vars l = some a) (hb' : xE T n sc vars r = some b) (hv : evalBin op a.2 b.2 = some v) :
    Gets prog w A s (eval (.BinOp l op r pos) env) (Oks ((a.1 || okItems a.2) && (b.1 || okItems b.2)) pub) v := by
  obtain ⟨n1, n2⟩ := bin_nodict hv
  refine fun E Q q => wpAny_BinOp (ih.e A sc env vars pub s l a.1 a.2 rm ha R F E _ fun c1 h1 tk1 st1 r1 => ?_)
  refine ih.e A sc env vars pub { s with heap := h1, toks := tk1 } r b.1 b.2 rm hb' (R.stays st1) (fresh_stays F st1) E _ fun c2 h2 tk2 st2 r2 => ?_
  have F2 := fresh_stays (fresh_stays F st1) st2
  refine bin_sound (s := { s with heap := h2, toks := tk2 }) (Ok := Oks ((a.1 || okItems a.2) && (b.1 || okItems b.2)) pub) .T (Oks.fresh (s := { s with heap := h2, toks := tk2 }) F2) hv (itOf (fun ok o => (r1 ok o).stays st2 fun _ x => x) n1 fun e => ?_) (itOf r2 n2 fun e => ?_) E Q fun cv h3 tk3 st3 r3 => q cv h3 tk3 (stays_trans (stays_trans st1 st2) st3) r3
  · exact (Bool.and_eq_true_iff.mp e).1
  · exact (Bool.and_eq_true_iff.mp e).2

theorem e_neg (ih : Snd prog w T hb n) {x : Expr} {pos} {a : Bool × PV} (rm : Room A n) (R : Reads prog w hb sc env pub vars s.heap) (F : ∀ b, s.heap.get? b = none → pub.p b)
    (ha : xE T n sc vars x = some a) (hv : negP a.2 = some v) : Gets prog w A s (eval (.UnaryOp .USub x pos) env) (Oks true pub) v := by
  cases hi : a.2 with
  | int i =>
    rw [hi] at hv
    have hv : (if smallI i = true then some (PV.int (-i)) else none) = some v := hv
    split at hv
    · cases hv
      refine fun E Q q => wpAny_UnaryOp (ih.e A sc env vars pub s x a.1 a.2 rm ha R F E _ fun c1 h1 tk1 st1 r1 => ?_)
      have := r1 _ .T
      rw [hi] at this
      obtain ⟨t, rfl⟩ := this.int_inv
      exact neg_int (q _ h1 _ st1 fun _ _ => .int _ _)
    · exact noS hv
  | _ => rw [hi] at hv; exact noS hv

theorem e_ifexp (ih : Snd prog w T hb n) {t a b : Expr} {pos} {c : Bool} (rm : Room A n) (R : Reads prog w hb sc env pub vars s.heap) (F : ∀ b, s.heap.get? b = none → pub.p b)
    (ht : xT T n sc vars t = some c) (hv : (bif c then xE T n sc vars a else xE T n sc vars b) = some (p, v)) : Gets prog w A s (eval (.IfExp t a b pos) env) (Oks p pub) v := by
  refine fun E Q q => wpAny_IfExp (ih.t A sc env vars pub s t c rm ht R F E _ fun h1 tk1 st1 => ?_)
  cases c with
  | true => exact ih.e A sc env vars pub { s with heap := h1, toks := tk1 } a p v rm hv (R.stays st1) (fresh_stays F st1) E Q fun cv h2 tk2 st2 r2 => q cv h2 tk2 (stays_trans st1 st2) r2
  | false => exact ih.e A sc env vars pub { s with heap := h1, toks := tk1 } b p v rm hv (R.stays st1) (fresh_stays F st1) E Q fun cv h2 tk2 st2 r2 => q cv h2 tk2 (stays_trans st1 st2) r2

theorem eval_Compare (l : Expr) (ops : List CmpOp) (rs : List Expr) (pos : Pos) : eval (.Compare l ops rs pos) env = (do compareChain pos (← eval l env) ops (markedEach ops rs (evalEach rs env))) := rfl
theorem isTrue_Compare (l : Expr) (ops : List CmpOp) (rs : List Expr) (pos : Pos) (whole : Sem Value) : isTrue (.Compare l ops rs pos) env whole = (do testChain pos (← eval l env) ops (markedEach ops rs (evalEach rs env))) := rfl

theorem e_cmp (ih : Snd prog w T hb n) {l : Expr} {ops : List CmpOp} {rs : List Expr} {pos} {a : Bool × PV} {b : Bool} (rm : Room A n) (R : Reads prog w hb sc env pub vars s.heap) (F : ∀ b, s.heap.get? b = none → pub.p b)
    (hm : ¬ lastMarks ops rs = true) (ha : xE T n sc vars l = some a) (hc : xChain T n sc vars a.2 ops rs = some b) : Gets prog w A s (eval (.Compare l ops rs pos) env) (Oks true pub) (.bool b) := by
  rw [eval_Compare, markedEach_of_false _ _ _ (by simpa using hm)]
  refine fun E Q q => wpAny_bind (ih.e A sc env vars pub s l a.1 a.2 rm ha R F E _ fun c1 h1 tk1 st1 r1 => ?_)
  exact (ih.chain A sc env vars pub { s with heap := h1, toks := tk1 } a.2 ops rs b c1 rm hc (R.stays st1) (fresh_stays F st1) (r1 _ .T) pos).1 E Q fun cv h2 tk2 st2 r2 => q cv h2 tk2 (stays_trans st1 st2) r2
theorem t_cmp (ih : Snd prog w T hb n) {l : Expr} {ops : List CmpOp} {rs : List Expr} {pos} {a : Bool × PV} {b : Bool} (rm : Room A n) (R : Reads prog w hb sc env pub vars s.heap) (F : ∀ b, s.heap.get? b = none → pub.p b)
    (hm : ¬ lastMarks ops rs = true) (ha : xE T n sc vars l = some a) (hc : xChain T n sc vars a.2 ops rs = some b) (whole : Sem Value) : Says prog w A s (isTrue (.Compare l ops rs pos) env whole) b := by
  rw [isTrue_Compare, markedEach_of_false _ _ _ (by simpa using hm)]
  refine fun E Q q => wpAny_bind (ih.e A sc env vars pub s l a.1 a.2 rm ha R F E _ fun c1 h1 tk1 st1 r1 => ?_)
  exact (ih.chain A sc env vars pub { s with heap := h1, toks := tk1 } a.2 ops rs b c1 rm hc (R.stays st1) (fresh_stays F st1) (r1 _ .T) pos).2 E Q fun h2 tk2 st2 => q h2 tk2 (stays_trans st1 st2)

theorem VsRep.len {l : List (Bool × PV)} {cs : List Value} (r : VsRep prog w h pub l cs) : l.length = cs.length := by induction r with | nil => rfl | cons _ _ ih => simp [ih]
theorem VsRep.all {l : List (Bool × PV)} {cs : List Value} (r : VsRep prog w h pub l cs) {q : Bool} (hq : q = true → l.all (·.1) = true) : ∀ ok, Oks q pub ok → VAll prog w h ok (l.map (·.2)) cs := by
  induction r with
  | nil => exact fun _ _ => .nil
  | @cons p v cv l cs a _ ih => exact fun ok o => .cons (a ok (o.le fun e => by have := hq e; simp at this; exact this.1)) (ih (fun e => by have := hq e; simp at this; simpa using this.2) ok o)

theorem e_tuple (ih : Snd prog w T hb n) {es : List Expr} {k pos} {vs : List (Bool × PV)} (rm : Room A n) (R : Reads prog w hb sc env pub vars s.heap) (F : ∀ b, s.heap.get? b = none → pub.p b)
    (ha : xEs T n sc vars es = some vs) (hv : tupP vs = some (p, v)) : Gets prog w A s (eval (.Tuple es k pos) env) (Oks p pub) v := by
  unfold tupP at hv
  split at hv
  · rename_i hz
    cases hv
    refine fun E Q q => wpAny_Tuple (ih.es A sc env vars pub s es vs rm ha R F pos E _ fun cs h1 tk1 st1 r1 => ⟨?_, ?_⟩)
    · rw [← r1.len]; exact szOk_le hz
    · exact q _ _ tk1 (stays_trans st1 (stays_push _ _)) fun ok o => .tup ⟨0, Heap.get?_push_size _ rfl⟩ ((r1.all id ok o).stays (stays_push _ _) fun _ x => x)
  · cases hv
theorem e_list (ih : Snd prog w T hb n) {es : List Expr} {pos} {vs : List (Bool × PV)} (rm : Room A n) (R : Reads prog w hb sc env pub vars s.heap) (F : ∀ b, s.heap.get? b = none → pub.p b)
    (ha : xEs T n sc vars es = some vs) (hv : listP vs = some (p, v)) : Gets prog w A s (eval (.List es pos) env) (Oks p pub) v := by
  unfold listP at hv
  split at hv
  · rename_i hz
    simp only [Bool.and_eq_true] at hz
    cases hv
    refine fun E Q q => wpAny_List (ih.es A sc env vars pub s es vs rm ha R F pos E _ fun cs h1 tk1 st1 r1 => ⟨?_, ?_⟩)
    · rw [← r1.len]; exact szOk_le hz.2
    · refine q _ _ tk1 (stays_trans st1 (stays_push _ _)) fun ok o => .list ?_ ⟨0, Heap.get?_push_size _ rfl⟩ ((r1.all (fun _ => hz.1) ok o).stays (stays_push _ _) fun _ x => x)
      have := Oks.fresh (p := true) (s := { s with heap := h1, toks := tk1 }) (fresh_stays F st1) ok o
      exact this _ (fresh_none _)
  · cases hv
end
end Mine

namespace Mine
open PySem PySem.Calls PyProof.Rows PySem.W PySem.SeqAt

section
variable {prog : Program} {w : World} {T : Tab} {hb h : Heap} {n : Nat} {A : Around} {sc : Scope} {env : Env} {vars : Vars} {pub : Pubs} {s : Shared} {p : Bool} {v : PV}

theorem Room.cmp (r : Room A n) : A.units + 8 < cLine := by have := r.u; (first | lia | omega)

theorem sub_sound {a k : PV} {ca ck : Value} {p : Bool} {value slice : Expr} (rm : Room A n) (e : evalSub a k = some v) (ra : ∀ ok, Oks p pub ok → VRep prog w s.heap ok a ca) (rk : VRep prog w s.heap (fun _ => True) k ck) :
    Gets prog w A s (subscriptTail value slice ca ck) (Oks p pub) v := by
  cases a with
  | list l =>
    obtain ⟨i, hi, e2⟩ := bnd (show (intP k).bind (fun i => if smallI i = true then nth l i else none) = some v from e)
    obtain rfl := intP_eq hi
    obtain ⟨hs, e2⟩ := ifO e2
    obtain ⟨t, rfl⟩ := rk.int_inv
    obtain ⟨g, hT⟩ := getItem_list_sound (Ok := Oks p pub) .T hs (fun ok o => (ra ok o).it) e2
    exact subTail hT PySem.slot_list_getitem.lookup g
  | tup l =>
    obtain ⟨i, hi, e2⟩ := bnd (show (intP k).bind (fun i => if smallI i = true then nth l i else none) = some v from e)
    obtain rfl := intP_eq hi
    obtain ⟨hs, e2⟩ := ifO e2
    obtain ⟨t, rfl⟩ := rk.int_inv
    obtain ⟨g, hT⟩ := getItem_tup_sound (Ok := Oks p pub) .T hs (fun ok o => (ra ok o).it) e2
    exact subTail hT PyProof.Rows.slot_tuple_getitem.lookup g
  | dict ks vs =>
    obtain ⟨hk, e⟩ := ifO (show (if keyP k = true then (getD2 k ks vs).bind id else none) = some v from e)
    obtain ⟨o, q, e⟩ := bnd e
    cases (show o = some v from e)
    obtain ⟨g, hT⟩ := getItem_dict_sound (A := A) (Ok := Oks p pub) (by have := rm.u; (first | lia | omega)) .T ra hk rk q
    exact subTail hT PySem.slot_dict_getitem.lookup g
  | _ => exact noS e

theorem e_sub (ih : Snd prog w T hb n) {value slice : Expr} {pos} {a k : Bool × PV} (rm : Room A n) (R : Reads prog w hb sc env pub vars s.heap) (F : ∀ b, s.heap.get? b = none → pub.p b)
    (ha : xE T n sc vars value = some a) (hk : xE T n sc vars slice = some k) (hv : evalSub a.2 k.2 = some v) : Gets prog w A s (eval (.Subscript value slice pos) env) (Oks (a.1 || v.imm) pub) v := by
  refine fun E Q q => Subscript_ (ih.e A sc env vars pub s value a.1 a.2 rm ha R F E _ fun c1 h1 tk1 st1 r1 => ?_)
  refine ih.e A sc env vars pub { s with heap := h1, toks := tk1 } slice k.1 k.2 rm hk (R.stays st1) (fresh_stays F st1) E _ fun c2 h2 tk2 st2 r2 => ?_
  have g : Gets prog w A { s with heap := h2, toks := tk2 } (subscriptTail value slice c1 c2) (Oks a.1 pub) v := sub_sound rm hv (fun ok o => (r1 ok o).stays st2 fun _ x => x) (r2 _ .T)
  exact (g.flag fun e => by simpa using e) E Q fun cv h3 tk3 st3 r3 => q cv h3 tk3 (stays_trans (stays_trans st1 st2) st3) r3

theorem rev_sound {a r : PV} {ca : Value} {p : Bool} {sl : Addr} {u : Tok} {value slice : Expr} (F : ∀ b, s.heap.get? b = none → pub.p b)
    (e : evalRev a = some r) (hs : s.heap.IsSliceOf sl .none .none (.int (-1) u)) (ra : ∀ ok, Oks p pub ok → VRep prog w s.heap ok a ca) :
    Gets prog w A s (subscriptTail value slice ca (.ref sl)) (Oks (p || okItems a) pub) r := by
  have nd : ∀ ks vs, a ≠ .dict ks vs := by
    rintro ks vs rfl; exact noS e
  have it := itOf (q := p || okItems a) ra nd id
  cases a with
  | list l =>
      obtain ⟨hz, rfl⟩ := ifS (show (if szOk l.length = true then some (PV.list l.reverse) else none) = some r from e)
      have g := revList_sound (A := A) (Ok := Oks (p || okItems (.list l)) pub) .T (Oks.fresh F) hs hz it
      obtain ⟨a', items, rfl, hl, _⟩ := VIt.lists .T it
      exact subTail (T := "list") hl.isList.typeIs PySem.slot_list_getitem.lookup g
  | _ => exact noS e

theorem e_rev (ih : Snd prog w T hb n) {value st : Expr} {pos sp} {a k : Bool × PV} {r : Bool × PV} (rm : Room A n) (R : Reads prog w hb sc env pub vars s.heap) (F : ∀ b, s.heap.get? b = none → pub.p b)
    (ha : xE T n sc vars value = some a) (hk : xE T n sc vars st = some k) (hv : revP a k.2 = some r) :
    Gets prog w A s (eval (.Subscript value (.Slice none none (some st) sp) pos) env) (Oks r.1 pub) r.2 := by
  unfold revP at hv
  split at hv
  · rename_i i hi
    split at hv
    · rename_i hm
      have hm' : i = -1 := by simpa using hm
      subst hm'
      cases hr : evalRev a.2 with
      | none => rw [hr] at hv; cases hv
      | some x =>
        rw [hr] at hv; cases hv
        refine fun E Q q => Subscript_ (ih.e A sc env vars pub s value a.1 a.2 rm ha R F E _ fun c1 h1 tk1 st1 r1 => ?_)
        refine wpAny_Slice (wpAny_pure (wpAny_pure ?_))
        refine ih.e A sc env vars pub { s with heap := h1, toks := tk1 } st k.1 k.2 rm hk (R.stays st1) (fresh_stays F st1) E _ fun c2 h2 tk2 st2 r2 => ?_
        have r2' := r2 _ .T
        rw [hi] at r2'
        obtain ⟨u, rfl⟩ := r2'.int_inv
        have stp := stays_push h2 { cls := .type "slice", data := .fields #[.none, .none, .int (-1) u] }
        have g := rev_sound (A := A) (s := { s with heap := h2.push { cls := .type "slice", data := .fields #[.none, .none, .int (-1) u] }, toks := tk2 }) (value := value) (slice := .Slice none none (some st) sp)
          (fresh_stays (fresh_stays (fresh_stays F st1) st2) stp) hr (Heap.IsSliceOf.new h2 _ _ _) (fun ok o => ((r1 ok o).stays st2 fun _ x => x).stays stp fun _ x => x)
        exact g E Q fun cv h4 tk4 st4 r4 => q cv h4 tk4 (stays_trans (stays_trans (stays_trans st1 st2) stp) st4) r4
    · cases hv
  · cases hv
end
end Mine

namespace Mine
open PySem PySem.Calls PyProof.Rows PySem.W PySem.SeqAt

section
variable {prog : Program} {w : World} {T : Tab} {hb h : Heap} {n : Nat} {A : Around} {sc : Scope} {env : Env} {vars : Vars} {pub : Pubs} {s : Shared} {p : Bool} {v : PV}

theorem boolP_some {v : PV} {b : Bool} (e : boolP v = some b) : v = .bool b := by
  unfold boolP at e
  split at e
  · cases e; rfl
  · cases e
theorem rep_bool {ok : Addr → Prop} {b : Bool} {c : Value} (r : VRep prog w h ok (.bool b) c) : c = .bool b := by cases r; rfl

theorem star_of {e : Expr} {r} (he : xE T n sc vars e = some r) (rest : List Expr) (env : Env) : starEach (e :: rest) env = (false, eval e env) :: starEach rest env := by
  cases e with
  | Starred => cases n <;> exact noS he
  | _ => rfl
theorem folded_of {e : Expr} {env : Env} (he : ∀ elts k pos, e ≠ .Set elts k pos) (x : Value) : foldedSetIterable e env x = pure x := by
  cases e with
  | Set => exact absurd rfl (he _ _ _)
  | _ => rfl

theorem step_o (ih : Snd prog w T hb n) : OOk prog w T hb (n + 1) := by
  intro A sc env vars pub s e v rm hv R F
  cases e with
  | none => cases (show some none = some v from hv); rfl
  | some e =>
      obtain ⟨a, hx, hv⟩ := bnd (show (xE T n sc vars e).bind (fun a => some (some a.2)) = some v from hv)
      cases hv
      have := ih.e A sc env vars pub s e a.1 a.2 rm.pred hx R F
      exact this.flag fun e => by cases e

theorem step_es (ih : Snd prog w T hb n) : EsOk prog w T hb (n + 1) := by
  intro A sc env vars pub s es vs rm hv R F pos E Q q
  cases es with
  | nil => cases (show some [] = some vs from hv); exact wpAny_items_nil (q _ s.heap s.toks (stays_refl _) .nil)
  | cons e r =>
    obtain ⟨a, ha, hv⟩ := bnd (show (xE T n sc vars e).bind (fun v => (xEs T n sc vars r).bind fun vs => some (v :: vs)) = some vs from hv)
    obtain ⟨as, has, hv⟩ := bnd hv
    cases hv
    refine wpAny_items_cons ?_ (star_of ha r env)
    refine ih.e A sc env vars pub s e a.1 a.2 rm.pred ha R F E _ fun c1 h1 tk1 st1 r1 => ?_
    refine ih.es A sc env vars pub { s with heap := h1, toks := tk1 } r as rm.pred has (R.stays st1) (fresh_stays F st1) pos E _ fun cs h2 tk2 st2 r2 => ?_
    exact q _ h2 tk2 (stays_trans st1 st2) (.cons (fun ok o => (r1 ok o).stays st2 fun _ x => x) r2)

theorem boolOp_cons (pos : Pos) (op : BoolOp) (x y : Sem Value) (rest : List (Sem Value)) : boolOp pos op (x :: y :: rest) = (do
    let v ← x
    standAt pos
    let t ← holding [v] (truthy v)
    match op, t with
    | .And, false | .Or, true => pure v
    | _, _ => boolOp pos op (y :: rest)) := rfl

theorem step_bools (ih : Snd prog w T hb n) : BoolsOk prog w T hb (n + 1) := by
  intro A sc env vars pub s op es b rm hv R F pos E Q q
  match es with
  | [] => exact noS hv
  | [e] =>
    obtain ⟨a, ha, hb'⟩ := bnd (show (xE T n sc vars e).bind (fun a => boolP a.2) = some b from hv)
    have hb'' := boolP_some hb'
    refine ih.e A sc env vars pub s e a.1 a.2 rm.pred ha R F E _ fun c1 h1 tk1 st1 r1 => ?_
    refine q _ h1 tk1 st1 fun ok _ => ?_
    have := r1 _ .T
    rw [hb''] at this
    rw [rep_bool this]; exact .bool b
  | e :: e' :: r =>
    obtain ⟨a, ha, hv⟩ := bnd (show (xE T n sc vars e).bind (fun a => (boolP a.2).bind fun b => bif b == (op == .And) then xBools T n sc vars op (e' :: r) else some b) = some b from hv)
    obtain ⟨c, hc, go⟩ := bnd hv
    have hc' := boolP_some hc
    show wpAny _ _ (boolOp pos op (eval e env :: eval e' env :: evalEach r env)) _ _ _
    rw [boolOp_cons]
    refine wpAny_bind (ih.e A sc env vars pub s e a.1 a.2 rm.pred ha R F E _ fun c1 h1 tk1 st1 r1 => ?_)
    have := r1 _ .T
    rw [hc'] at this
    rw [rep_bool this]
    refine wpAny_bind (wpAny_standAt (wpAny_bind (wpAny_holding (wpAny_truthy_bool ?_))))
    cases op <;> cases c
    · cases (show some false = some b from go)
      exact wpAny_pure (q _ h1 tk1 st1 fun _ _ => .bool _)
    · exact ih.bools A sc env vars pub { s with heap := h1, toks := tk1 } .And (e' :: r) b rm.pred go (R.stays st1) (fresh_stays F st1) pos E Q fun cv h2 tk2 st2 r2 => q cv h2 tk2 (stays_trans st1 st2) r2
    · exact ih.bools A sc env vars pub { s with heap := h1, toks := tk1 } .Or (e' :: r) b rm.pred go (R.stays st1) (fresh_stays F st1) pos E Q fun cv h2 tk2 st2 r2 => q cv h2 tk2 (stays_trans st1 st2) r2
    · cases (show some true = some b from go)
      exact wpAny_pure (q _ h1 tk1 st1 fun _ _ => .bool _)

theorem step_t (ih : Snd prog w T hb n) : TOk prog w T hb (n + 1) := by
  intro A sc env vars pub s e b rm hv R F
  cases e with
  | UnaryOp op x pos =>
    cases op with
    | Not =>
      obtain ⟨c, hx, hv⟩ := bnd (show (xT T n sc vars x).bind (fun c => some (!c)) = some b from hv)
      cases hv
      exact fun E Q q => PyProof.Rows.isTrue_not (ih.t A sc env vars pub s x c rm.pred hx R F E _ q)
    | _ => exact noS hv
  | BoolOp op es pos => exact fun E Q q => wpAny_isTrue_BoolOp ((ih.ts A sc env vars pub s op es b rm.pred hv R F).1 E Q q)
  | Compare l ops rs pos =>
    obtain ⟨hm, hv⟩ := unlessIf (show (bif lastMarks ops rs then none else (xE T n sc vars l).bind fun a => xChain T n sc vars a.2 ops rs) = some b from hv)
    obtain ⟨a, ha, hc⟩ := bnd hv
    exact t_cmp ih rm.pred R F (by rw [hm]; exact nofun) ha hc _
  | Call f as ks pos =>
    obtain ⟨a, ha, hc⟩ := bnd (show (xE T n sc vars (.Call f as ks pos)).bind (fun a => boolP a.2) = some b from hv)
    have hc' := boolP_some hc
    refine fun E Q q => PyProof.Rows.isTrue_plain (ih.e A sc env vars pub s _ a.1 a.2 rm.pred ha R F E _ fun c1 h1 tk1 st1 r1 => ?_)
    have := r1 _ .T
    rw [hc'] at this
    rw [rep_bool this]
    exact wpAny_truthy_bool (q h1 tk1 st1)
  | _ => exact noS hv

theorem rest_false {env : Env} {A : Around} {E : Value → Shared → Prop} : ∀ (r : List Expr) (s : Shared) (Q : Bool → Shared → Prop), Q false s → wpAny (model prog w) A (forIn r false fun c r => if r = true then do let ok ← isTrue c env (eval c env); pure (ForInStep.yield ok) else pure (ForInStep.yield r)) Q E s
  | [], s, Q, q => by rw [List.forIn_nil]; exact wpAny_pure q
  | e :: r, s, Q, q => by
    rw [List.forIn_cons]
    exact wpAny_bind (wpAny_pure (rest_false r s Q q))
theorem step_ts (ih : Snd prog w T hb n) : TsOk prog w T hb (n + 1) := by
  intro A sc env vars pub s op es b rm hv R F
  cases es with
  | nil =>
    cases (show some (op == .And) = some b from hv)
    refine ⟨fun E Q q => wpAny_pure (q s.heap s.toks (stays_refl _)), fun ho E Q q => ?_⟩
    subst ho
    rw [List.forIn_nil]; exact wpAny_pure (q s.heap s.toks (stays_refl _))
  | cons e r =>
    obtain ⟨c, hc, go⟩ := bnd (show (xT T n sc vars e).bind (fun c => bif c == (op == .And) then xTs T n sc vars op r else some c) = some b from hv)
    refine ⟨fun E Q q => ?_, fun ho E Q q => ?_⟩
    · show wpAny _ _ (do match op, ← isTrue e env (eval e env) with | .And, false => pure false | .Or, true => pure true | _, _ => allTrue op r env) _ _ _
      refine wpAny_bind (ih.t A sc env vars pub s e c rm.pred hc R F E _ fun h1 tk1 st1 => ?_)
      cases op <;> cases c
      · cases (show some false = some b from go); exact wpAny_pure (q h1 tk1 st1)
      · exact (ih.ts A sc env vars pub { s with heap := h1, toks := tk1 } .And r b rm.pred go (R.stays st1) (fresh_stays F st1)).1 E Q fun h2 tk2 st2 => q h2 tk2 (stays_trans st1 st2)
      · exact (ih.ts A sc env vars pub { s with heap := h1, toks := tk1 } .Or r b rm.pred go (R.stays st1) (fresh_stays F st1)).1 E Q fun h2 tk2 st2 => q h2 tk2 (stays_trans st1 st2)
      · cases (show some true = some b from go); exact wpAny_pure (q h1 tk1 st1)
    · subst ho
      rw [List.forIn_cons]
      refine wpAny_bind (wpAny_bind (ih.t A sc env vars pub s e c rm.pred hc R F E _ fun h1 tk1 st1 => wpAny_pure ?_))
      cases c
      · cases (show some false = some b from go)
        exact rest_false r _ Q (q h1 tk1 st1)
      · exact (ih.ts A sc env vars pub { s with heap := h1, toks := tk1 } .And r b rm.pred go (R.stays st1) (fresh_stays F st1)).2 rfl E Q fun h2 tk2 st2 => q h2 tk2 (stays_trans st1 st2)

theorem step_chain (ih : Snd prog w T hb n) : ChainOk prog w T hb (n + 1) := by
  intro A sc env vars pub s a ops rs b ca rm hv R F ra pos
  match ops, rs with
  | [op], [r] =>
    obtain ⟨x, hx, hc⟩ := bnd (show (xE T n sc vars r).bind (fun x => evalCmp op a x.2) = some b from hv)
    have g : ∀ (E : Value → Shared → Prop) (Q : Value → Shared → Prop), (∀ h' tk, s.heap.StaysIn h' → Q (.bool b) { s with heap := h', toks := tk }) →
        wpAny (model prog w) A (eval r env) (fun c1 s₁ => wpAny (model prog w) A (compareOp op ca c1) Q E s₁) E s := fun E Q q => by
      refine ih.e A sc env vars pub s r x.1 x.2 rm.pred hx R F E _ fun c1 h1 tk1 st1 r1 => ?_
      refine cmp_sound (Ok := Oks false pub) (s := { s with heap := h1, toks := tk1 }) rm.cmp (ra.stays st1 fun _ x => x) (r1 _ .T) hc E Q fun cv h2 tk2 st2 r2 => ?_
      rw [rep_bool (r2 _ .T)]
      exact q h2 tk2 (stays_trans st1 st2)
    exact ⟨fun E Q q => chain_last (g E _ fun h' tk st => q _ h' tk st fun _ _ => .bool b), fun E Q q => test_last (g E _ fun h' tk st => wpAny_truthy_bool (q h' tk st))⟩
  | [], _ => exact noS hv
  | _ :: _, [] => exact noS hv
  | [_], _ :: _ :: _ => exact noS hv
  | op :: op' :: ops, [r] => exact noS hv
  | op :: op' :: ops, r :: r' :: rs =>
    obtain ⟨x, hx, hv⟩ := bnd (show (xE T n sc vars r).bind (fun x => (evalCmp op a x.2).bind fun c => bif c then xChain T n sc vars x.2 (op' :: ops) (r' :: rs) else some false) = some b from hv)
    obtain ⟨c, hc, hv⟩ := bnd hv
    have g : ∀ (E : Value → Shared → Prop) (Q : Value → Value → Shared → Prop), (∀ c1 h' tk, s.heap.StaysIn h' → VRep prog w h' (fun _ => True) x.2 c1 → Q c1 (.bool c) { s with heap := h', toks := tk }) →
        wpAny (model prog w) A (eval r env) (fun c1 s₁ => wpAny (model prog w) A (compareOp op ca c1) (Q c1) E s₁) E s := fun E Q q => by
      refine ih.e A sc env vars pub s r x.1 x.2 rm.pred hx R F E _ fun c1 h1 tk1 st1 r1 => ?_
      refine cmp_sound (Ok := Oks false pub) (s := { s with heap := h1, toks := tk1 }) rm.cmp (ra.stays st1 fun _ x => x) (r1 _ .T) hc E _ fun cv h2 tk2 st2 r2 => ?_
      rw [rep_bool (r2 _ .T)]
      exact q c1 h2 tk2 (stays_trans st1 st2) ((r1 _ .T).stays st2 fun _ x => x)
    constructor
    · refine fun E Q q => chain_link (g E _ fun c1 h1 tk1 st1 r1 => wpAny_truthy_bool ?_)
      cases c with
      | false => cases (show some false = some b from hv); exact q _ h1 tk1 st1 fun _ _ => .bool _
      | true => exact (ih.chain A sc env vars pub { s with heap := h1, toks := tk1 } x.2 (op' :: ops) (r' :: rs) b c1 rm.pred hv (R.stays st1) (fresh_stays F st1) r1 pos).1 E Q fun cv h2 tk2 st2 r2 => q cv h2 tk2 (stays_trans st1 st2) r2
    · refine fun E Q q => test_link (g E _ fun c1 h1 tk1 st1 r1 => wpAny_truthy_bool ?_)
      cases c with
      | false => cases (show some false = some b from hv); exact q h1 tk1 st1
      | true => exact (ih.chain A sc env vars pub { s with heap := h1, toks := tk1 } x.2 (op' :: ops) (r' :: rs) b c1 rm.pred hv (R.stays st1) (fresh_stays F st1) r1 pos).2 E Q fun h2 tk2 st2 => q h2 tk2 (stays_trans st1 st2)
end
end Mine

namespace Mine
open PySem PySem.Calls PyProof.Rows PySem.W PySem.SeqAt

section
variable {prog : Program} {w : World} {T : Tab} {hb h : Heap} {n : Nat} {A : Around} {sc : Scope} {env : Env} {vars : Vars} {pub : Addr → Prop} {s : Shared} {p : Bool} {v : PV}

theorem bindL_notin {k : Str → Option NameKind} : ∀ (bs : List (Str × Value)) (m : Str → Option Value) (x : Str), x ∉ bs.map (·.1) → bindL k bs m x = m x
  | [], _, _, _ => rfl
  | (y, u) :: r, m, x, h => by
    unfold bindL
    have hxy : x ≠ y := fun e => h (by simp [e])
    rw [bindL_notin r _ x fun e => h (by simp; exact .inr (by simpa using e))]
    split
    · simp [hxy]
    · rfl
theorem bindL_get {k : Str → Option NameKind} : ∀ (bs : List (Str × Value)) (m : Str → Option Value) (x : Str) (u : Value), (bs.map (·.1)).Nodup → (x, u) ∈ bs → k x = some .local → bindL k bs m x = some u
  | (y, z) :: r, m, x, u, hn, hm, hk => by
    simp only [List.map_cons, List.nodup_cons] at hn
    unfold bindL
    rcases List.mem_cons.mp hm with e | hm
    · cases e
      rw [bindL_notin r _ _ hn.1, if_pos hk]; simp
    · exact bindL_get r _ x u hn.2 hm hk
theorem bindC_notin {k : Str → Option NameKind} : ∀ (bs : List (Str × Value)) (m : Str → Option Value) (x : Str), x ∉ bs.map (·.1) → bindC k bs m x = m x
  | [], _, _, _ => rfl
  | (y, u) :: r, m, x, h => by
    unfold bindC
    have hxy : x ≠ y := fun e => h (by simp [e])
    rw [bindC_notin r _ x fun e => h (by simp; exact .inr (by simpa using e))]
    split
    · rfl
    · simp [hxy]
theorem bindC_get {k : Str → Option NameKind} : ∀ (bs : List (Str × Value)) (m : Str → Option Value) (x : Str) (u : Value), (bs.map (·.1)).Nodup → (x, u) ∈ bs → ¬ k x = some .local → bindC k bs m x = some u
  | (y, z) :: r, m, x, u, hn, hm, hk => by
    simp only [List.map_cons, List.nodup_cons] at hn
    unfold bindC
    rcases List.mem_cons.mp hm with e | hm
    · cases e
      rw [bindC_notin r _ _ hn.1, if_neg hk]; simp
    · exact bindC_get r _ x u hn.2 hm hk

theorem Bound.names {vars : Vars} {as : List (Mode × PV)} {vs : List Value} {bs : List (Str × Value)} (b : Bound vars as vs bs) : bs.map (·.1) = vars.map (·.1) := by
  induction b with
  | nil => rfl
  | arg _ ih => simp [ih]
  | dflt _ _ ih => simp [ih]
theorem look_mem {x : Str} {sl : Mode × PV} : ∀ {vars : Vars}, look x vars = some sl → (x, sl) ∈ vars
  | (y, t) :: r, e => by
    unfold look at e
    split at e
    · rename_i h; cases e; rw [strEq_iff.mp h]; exact .head _
    · exact .tail _ (look_mem e)
theorem constRep_any {d : PV} {u : Value} {ok : Addr → Prop} (c : ConstRep d u) : VRep prog w h ok d u := by
  unfold ConstRep at c
  split at c
  · subst c; exact .none
  · obtain ⟨t, rfl⟩ := c; exact .int _ _
  · exact c.elim
theorem Bound.get {Sl : Mode → PV → Value → Prop} {vars : Vars} {as : List (Mode × PV)} {vs : List Value} {bs : List (Str × Value)} (b : Bound vars as vs bs) (hs : ArgsF Sl as vs) {x : Str} {md : Mode} {v : PV} (hx : (x, md, v) ∈ vars) :
    ∃ cv, (x, cv) ∈ bs ∧ (Sl md v cv ∨ (md = .P ∧ ConstRep v cv)) := by
  induction b with
  | nil => cases hx
  | arg _ ih =>
    cases hs with | cons a r =>
    rcases List.mem_cons.mp hx with e | hx
    · cases e; exact ⟨_, .head _, .inl a⟩
    · obtain ⟨cv, h1, h2⟩ := ih r hx; exact ⟨cv, .tail _ h1, h2⟩
  | dflt c _ ih =>
    rcases List.mem_cons.mp hx with e | hx
    · cases e; exact ⟨_, .head _, .inr ⟨rfl, c⟩⟩
    · obtain ⟨cv, h1, h2⟩ := ih hs hx; exact ⟨cv, .tail _ h1, h2⟩

noncomputable def Handed (prog : Program) (w : World) (h : Heap) (pub : Addr → Prop) (lent : Addr) (md : Mode) (v : PV) (cv : Value) : Prop := match md with
  | .P => VRep prog w h pub v cv
  | .B => VRep prog w h (fun a => a ≠ lent) v cv
  | .M => okItems v = true ∧ cv = .ref lent ∧ VRep prog w h (fun b => b = lent) v cv
  | .O => False

theorem call_frame {fn : Fn} {lent : Addr} {s' : Shared} {as : List (Mode × PV)} {vals : List Value} {bs : List (Str × Value)} (hst : hb.StaysIn s.heap) (hf : ∀ b, s.heap.get? b = none → pub b)
    (he : env.locals = s.heap.objs.size ∧ env.cells = cellsFrom (s.heap.objs.size + 1) fn.scope.names [] ∧ env.scope = fn.scope ∧ env.globals = mainGlobals ∧ env.builtins = builtinsNs) (hkind : fn.scope.kind = .function)
    (hnd : (fn.scope.names.map (·.1)).Nodup) (hnf : ∀ x ∈ fn.scope.names, x.2 ≠ .free)
    (x : InCallC s env.locals (bindL env.kindOf bs fun _ => none) env.cells (bindC env.kindOf bs fun _ => none) s')
    (bd : Bound vars as vals bs) (hown : ∀ x ∈ vars, ownK fn.scope x.1 = true) (hn : (vars.map (·.1)).Nodup) (ha : ArgsF (Handed prog w s.heap pub lent) as vals)
    (hM : ∀ y md v, (y, md, v) ∈ vars → ownM md = true → hb.get? lent = none ∧ s.heap.get? lent ≠ none) (hM1 : ∀ y z my vy mz vz, (y, my, vy) ∈ vars → (z, mz, vz) ∈ vars → ownM my = true → ownM mz = true → y = z) (hpl : ¬ pub lent ∨ ∀ y md v, (y, md, v) ∈ vars → ownM md = false) :
    Frame prog w hb fn.scope env pub (fun _ => True) lent vars (fun y => if env.kindOf y = some .local then bindL env.kindOf bs (fun _ => none) y else bindC env.kindOf bs (fun _ => none) y) s'.heap ∧
    ∀ a, Wr fn.scope env vars (fun y => if env.kindOf y = some .local then bindL env.kindOf bs (fun _ => none) y else bindC env.kindOf bs (fun _ => none) y) a → s.heap.get? a = none ∨ (a = lent ∧ ∃ y md v, (y, md, v) ∈ vars ∧ ownM md = true) := by
  obtain ⟨hL, hC, hS, hg, hbl⟩ := he
  have kof : ∀ y, env.kindOf y = kindIn y fn.scope.names := fun y => by rw [kindIn_lookup]; unfold Env.kindOf; rw [hS]
  have st : s.heap.StaysIn s'.heap := x.toInCall.keep
  have hbn : (bs.map (·.1)).Nodup := by rw [bd.names]; exact hn
  have nofree : ∀ y, kindIn y fn.scope.names ≠ some .free := fun y e => by
    rw [kindIn_lookup] at e
    exact hnf _ (mem_of_lookup e) rfl
  have vget : ∀ y md v, (y, md, v) ∈ vars → ∃ cv, (if env.kindOf y = some .local then bindL env.kindOf bs (fun _ => none) y else bindC env.kindOf bs (fun _ => none) y) = some cv ∧ (Handed prog w s.heap pub lent md v cv ∨ (md = .P ∧ ConstRep v cv)) := fun y md v hy => by
    obtain ⟨cv, h1, h2⟩ := bd.get ha hy
    refine ⟨cv, ?_, h2⟩
    split
    · rename_i hk; exact bindL_get bs _ y cv hbn h1 hk
    · rename_i hk; exact bindC_get bs _ y cv hbn h1 hk
  have isM : ∀ y md v, (y, md, v) ∈ vars → ownM md = true → md = .M ∧ okItems v = true ∧ (if env.kindOf y = some .local then bindL env.kindOf bs (fun _ => none) y else bindC env.kindOf bs (fun _ => none) y) = some (.ref lent) ∧ VRep prog w s.heap (fun b => b = lent) v (.ref lent) := fun y md v hy hm => by
    obtain ⟨cv, h1, h2⟩ := vget y md v hy
    rcases h2 with h2 | ⟨rfl, _⟩
    · cases md with
      | M => obtain ⟨a, rfl, b⟩ := h2; exact ⟨rfl, a, h1, b⟩
      | O => exact h2.elim
      | P => cases hm
      | B => cases hm
    · cases hm
  have hsz : ∀ a, s.heap.objs.size ≤ a → s.heap.get? a = none := fun a ha => Heap.get?_none_of_le ha
  have wr : ∀ a, Wr fn.scope env vars (fun y => if env.kindOf y = some .local then bindL env.kindOf bs (fun _ => none) y else bindC env.kindOf bs (fun _ => none) y) a → s.heap.get? a = none ∨ (a = lent ∧ ∃ y md v, (y, md, v) ∈ vars ∧ ownM md = true) := fun a q => by
    rcases q with rfl | ⟨y, hy, hc⟩ | ⟨y, md, v, hy, hm, hv⟩
    · exact .inl (hsz _ (by rw [hL]; exact Nat.le_refl _))
    · exact .inl (hsz _ (by have := x.above y a (mem_of_lookup hc); rw [hL] at this; exact Nat.le_of_lt this))
    · obtain ⟨_, _, e, _⟩ := isM y md v (look_mem hy) hm
      have e2 := hv.symm.trans e
      cases e2
      exact .inr ⟨rfl, y, md, v, look_mem hy, hm⟩
  have wrP : ∀ a, pub a → s.heap.get? a ≠ none → ¬ Wr fn.scope env vars (fun y => if env.kindOf y = some .local then bindL env.kindOf bs (fun _ => none) y else bindC env.kindOf bs (fun _ => none) y) a := fun a hp he q => by
    rcases wr a q with e | ⟨rfl, y, md, v, hy, hm⟩
    · exact he e
    · rcases hpl with e | e
      · exact e hp
      · rw [e y md v hy] at hm; cases hm
  exact ⟨{
    base := stays_trans hst st
    glob := hg
    blt := hbl
    kind := by rw [hS]; exact hkind
    kok := fun y k hk => .inl (by rw [kof]; exact hk)
    ns := ⟨_, x.toInCall.ns, fun y cv hy _ hv => by rw [kof, hy] at hv; simpa using hv⟩
    cel := fun y hy => by
      have hy' : kindIn y fn.scope.names = some .cell := hy.elim id fun e => absurd e (nofree y)
      have hs := cellsFrom_some (x := y) fn.scope.names (s.heap.objs.size + 1) [] (.inl (by rw [← kindIn_lookup]; exact hy'))
      obtain ⟨c, hc⟩ := Option.isSome_iff_exists.mp hs
      rw [← hC] at hc
      refine ⟨c, _, hc, x.cell y c hc, trivial, fun cv _ hv => ?_⟩
      rw [kof, hy'] at hv; simpa using hv
    apart := fun y z c hy hz h1 h2 => name_of_addr x.apart (mem_of_lookup h1) (mem_of_lookup h2)
    slots := fun y md v hy => by
      obtain ⟨cv, h1, h2⟩ := vget y md v (look_mem hy)
      refine ⟨cv, h1, ?_⟩
      rcases h2 with h2 | ⟨rfl, h2⟩
      · cases md with
        | P => exact (VRep.exist h2).stays st fun a o => ⟨⟨o.1, trivial⟩, wrP a o.1 o.2⟩
        | B => exact (VRep.exist h2).stays st fun a o => ⟨trivial, fun q => (wr a q).elim (fun e => o.2 e) fun e => o.1 e.1⟩
        | O => exact h2.elim
        | M => obtain ⟨a, rfl, b⟩ := h2; exact ⟨a, rfl, b.stays st fun _ x => x, trivial⟩
      · exact constRep_any h2
    own1 := fun y z my vy mz vz a hy hmy hz hmz _ _ => hM1 y z my vy mz vz (look_mem hy) (look_mem hz) hmy hmz
    sepL := fun y md v hy hm hv => by
      obtain ⟨_, _, e, _⟩ := isM y md v (look_mem hy) hm
      have e2 := hv.symm.trans e
      cases e2
      exact (hM y md v (look_mem hy) hm).2 (hsz _ (by rw [hL]; exact Nat.le_refl _))
    nbL := trivial
    old := fun a q => by
      rcases wr a q with e | ⟨rfl, y, md, v, hy, hm⟩
      · exact none_of_stays hst e
      · exact (hM y md v hy hm).1
    pbf := fun a e => hf a (none_of_stays st e)
    nbf := fun _ _ => trivial }, wr⟩
end
end Mine

namespace Mine
open PySem PySem.Calls PyProof.Rows PySem.W PySem.SeqAt

section
variable {prog : Program} {w : World} {T : Tab} {hb h : Heap} {n : Nat} {A : Around} {sc : Scope} {env : Env} {vars : Vars} {pub : Addr → Prop} {s : Shared} {p : Bool} {v : PV}

theorem ArgsF.len {Sl : Mode → PV → Value → Prop} {as : List (Mode × PV)} {vs : List Value} (h : ArgsF Sl as vs) : as.length = vs.length := by
  induction h with
  | nil => rfl
  | cons _ _ ih => simp [ih]

noncomputable def CallEnds (prog : Program) (w : World) (h' : Heap) (pub : Addr → Prop) (lent : Addr) (r : Res) (cv : Value) : Prop := match r with
  | .ret v => VRep prog w h' (fun _ => True) v cv ∧ VRep prog w h' pub v cv
  | .next vars' => cv = .none ∧ ∀ x v, look x vars' = some (.M, v) → okItems v = true ∧ VRep prog w h' (fun b => b = lent) v (.ref lent)

theorem call_enterC (ih : Snd prog w T hb n) (rm : Room A (n + 1)) {a lent : Addr} {fn : Fn} {as : List (Mode × PV)} {vals : List Value} {r : Res} {E : Value → Shared → Prop} {Q : Value → Shared → Prop}
    (hfn : FnAt hb a fn) (hnl : hb.NoLimit) (hst : hb.StaysIn s.heap) (hf : ∀ b, s.heap.get? b = none → pub b) (hbind : bindArgsV fn.params as fn.dflts = some vars) (hrun : xSs T n fn.scope vars fn.body = some r)
    (ha : ArgsF (Handed prog w s.heap pub lent) as vals)
    (hM : ∀ y md v, (y, md, v) ∈ vars → ownM md = true → hb.get? lent = none ∧ s.heap.get? lent ≠ none) (hM1 : ∀ y z my vy mz vz, (y, my, vy) ∈ vars → (z, mz, vz) ∈ vars → ownM my = true → ownM mz = true → y = z) (hpl : ¬ pub lent ∨ ∀ y md v, (y, md, v) ∈ vars → ownM md = false)
    (q : ∀ cv h' tk, (∀ b o, s.heap.get? b = some o → (b ≠ lent ∨ ∀ y md v, (y, md, v) ∈ vars → ownM md = false) → h'.get? b = some o) → (∀ b, h'.get? b = none → s.heap.get? b = none ∨ b = lent) → CallEnds prog w h' pub lent r cv → Q cv { s with heap := h', toks := tk }) :
    codeAny (model prog w) A (.call (.ref a) ⟨vals, []⟩) (fun r s' => match r with | .ok (.ret v) => Q v s' | .ok _ => False | .error e => E e s') s := by
  obtain ⟨o, fd, ho, hd, hg, hbl, hcl, hbody, hscope, hcode, hb'⟩ := hfn.fd
  obtain ⟨bs, hbt, bd⟩ := hb' as vals vars s hst ha.len hbind
  obtain ⟨hown, hnod⟩ := hfn.own as vars hbind
  refine codeAny_call_function (fd := fd) (body := fn.body) (by have := rm.d; (first | lia | omega)) (hst a o ho) hd (by rw [hscope]; exact hfn.co) (by rw [hscope]; exact hfn.gen) hbody (hcode.keeps hst) (hbt _ _ _ _ ?_)
  rw [hcl]
  refine wpAny_newFunctionEnv_cells (by rw [hscope]; exact hfn.kind) (fun y hy => ?_) fun env he s' x => ?_
  · have hy' : y.1 ∈ vars.map (·.1) := by rw [← bd.names]; exact List.mem_map_of_mem hy
    obtain ⟨z, hz, e⟩ := List.mem_map.mp hy'
    have hk := hown z hz
    rw [e] at hk
    unfold ownK at hk
    rw [hscope, ← kindIn_lookup]
    split at hk
    · rename_i e; exact .inl e
    · rename_i e; exact .inr ⟨e, cellsFrom_some _ _ _ (.inl (by rw [← kindIn_lookup]; exact e))⟩
    · cases hk
  · refine ⟨(hnl.keeps hst).keeps x.toInCall.keep, codeAny_func ?_⟩
    have hE : env.locals = s.heap.objs.size ∧ env.cells = cellsFrom (s.heap.objs.size + 1) fn.scope.names [] ∧ env.scope = fn.scope ∧ env.globals = mainGlobals ∧ env.builtins = builtinsNs := by
      subst he
      exact ⟨rfl, by show cellsFrom _ fd.scope.names [] = _; rw [hscope], hscope, hg, hbl⟩
    obtain ⟨Fr, wr⟩ := call_frame hst hf hE hfn.kind hfn.apart hfn.nofree x bd hown hnod ha hM hM1 hpl
    obtain ⟨h₁, tk₁, rfl, keep⟩ := x.done
    refine ih.ss (A.deeper env) fn.scope env pub (fun _ => True) lent vars _ { s with heap := h₁, toks := tk₁ } fn.body r rm.deeper hrun Fr _ _ fun f s₂ aft => ?_
    obtain ⟨h₂, tk₂, rfl, aft⟩ := aft
    have kept : ∀ {W₂ : Addr → Prop}, Kp (Wr fn.scope env vars fun y => if env.kindOf y = some .local then bindL env.kindOf bs (fun _ => none) y else bindC env.kindOf bs (fun _ => none) y) h₁ h₂ → ∀ b o, s.heap.get? b = some o → (b ≠ lent ∨ ∀ y md v, (y, md, v) ∈ vars → ownM md = false) → h₂.get? b = some o := fun k b o e c => by
      refine k b o (keep b o e) (.inl fun q => ?_)
      rcases wr b q with e' | ⟨rfl, y, md, v, hy, hm⟩
      · rw [e'] at e; cases e
      · rcases c with c | c
        · exact c rfl
        · rw [c y md v hy] at hm; cases hm
    have exs : (∀ b, h₂.get? b = none → h₁.get? b = none ∨ Wr fn.scope env vars (fun y => if env.kindOf y = some .local then bindL env.kindOf bs (fun _ => none) y else bindC env.kindOf bs (fun _ => none) y) b) → ∀ b, h₂.get? b = none → s.heap.get? b = none ∨ b = lent := fun e b eb => (e b eb).elim (fun x => .inl (none_of_stays keep x)) fun x => (wr b x).imp id (·.1)
    cases r with
    | next vars' =>
      obtain ⟨rfl, val', F', adv⟩ := aft
      refine q .none h₂ tk₂ (kept (W₂ := fun _ => True) adv.kp) (exs adv.ex) ⟨rfl, fun x v hx => ?_⟩
      obtain ⟨cv, _, hi, rfl, hr, _⟩ := F'.slots x .M v hx
      exact ⟨hi, hr⟩
    | ret v =>
      obtain ⟨cv, rfl, r1, r2, kp, ex⟩ := aft
      exact q cv h₂ tk₂ (kept (W₂ := fun _ => True) kp) (exs ex) ⟨r1, r2⟩

theorem call_enter (ih : Snd prog w T hb n) (rm : Room A (n + 1)) {a lent : Addr} {fn : Fn} {as : List (Mode × PV)} {vals : List Value} {r : Res} {E : Value → Shared → Prop} {Q : Value → Shared → Prop}
    (hfn : FnAt hb a fn) (hnl : hb.NoLimit) (hst : hb.StaysIn s.heap) (hf : ∀ b, s.heap.get? b = none → pub b) (hbind : bindArgsV fn.params as fn.dflts = some vars) (hrun : xSs T n fn.scope vars fn.body = some r)
    (ha : ArgsF (Handed prog w s.heap pub lent) as vals)
    (hM : ∀ y md v, (y, md, v) ∈ vars → ownM md = true → hb.get? lent = none ∧ s.heap.get? lent ≠ none) (hM1 : ∀ y z my vy mz vz, (y, my, vy) ∈ vars → (z, mz, vz) ∈ vars → ownM my = true → ownM mz = true → y = z) (hpl : ¬ pub lent ∨ ∀ y md v, (y, md, v) ∈ vars → ownM md = false)
    (q : ∀ cv h' tk, (∀ b o, s.heap.get? b = some o → (b ≠ lent ∨ ∀ y md v, (y, md, v) ∈ vars → ownM md = false) → h'.get? b = some o) → (∀ b, h'.get? b = none → s.heap.get? b = none ∨ b = lent) → CallEnds prog w h' pub lent r cv → Q cv { s with heap := h', toks := tk }) :
    wpAny (model prog w) A (call (.ref a) vals) Q E s :=
  wpAny_call (call_enterC ih rm hfn hnl hst hf hbind hrun ha hM hM1 hpl q)

noncomputable def Consts (prog : Program) (w : World) (T : Tab) (hb : Heap) : Prop := ∀ x fn v a, tabLook x T = some fn → fn.const = some v → FnAt hb a fn → ∀ A (s : Shared) (pub : Pubs) n, Room A (n + 1) → hb.StaysIn s.heap → (∀ b, s.heap.get? b = none → pub.p b) →
  Gets prog w A s (call (.ref a) []) (Oks true pub) v

theorem bindArgs_modes : ∀ {ps : List Str} {as : List (Mode × PV)} {ds : List (Str × PV)} {vars : Vars}, bindArgsV ps as ds = some vars → ∀ y md v, (y, md, v) ∈ vars → md = .P ∨ (md, v) ∈ as
  | [], [], ds, vars, e, y, md, v, hy => by
    cases (show some (ds.map fun d => (d.1, Mode.P, d.2)) = some vars from e)
    obtain ⟨d, _, e⟩ := List.mem_map.mp hy
    cases e; exact .inl rfl
  | [], _ :: _, _, _, e, _, _, _, _ => noS e
  | _ :: _, [], [], _, e, _, _, _, _ => noS e
  | p :: ps, [], d :: ds, vars, e, y, md, v, hy => by
    obtain ⟨_, vs, q, rfl⟩ := bindD e
    rcases List.mem_cons.mp hy with e | hy
    · cases e; exact .inl rfl
    · exact bindArgs_modes q y md v hy
  | p :: ps, a :: as, ds, vars, e, y, md, v, hy => by
    obtain ⟨vs, q, rfl⟩ := bindA e
    rcases List.mem_cons.mp hy with e | hy
    · cases e; exact .inr (.head _)
    · exact (bindArgs_modes q y md v hy).imp id fun m => .tail _ m

theorem ArgsF.mem {Sl : Mode → PV → Value → Prop} {as : List (Mode × PV)} {vs : List Value} (h : ArgsF Sl as vs) {md : Mode} {v : PV} (hm : (md, v) ∈ as) : ∃ cv, Sl md v cv := by
  induction h with
  | nil => cases hm
  | cons a _ ih =>
    rcases List.mem_cons.mp hm with e | hm
    · cases e; exact ⟨_, a⟩
    · exact ih hm
theorem ArgsF.imp {Sl Sl' : Mode → PV → Value → Prop} {as : List (Mode × PV)} {vs : List Value} (h : ArgsF Sl as vs) (f : ∀ md v cv, Sl md v cv → Sl' md v cv) : ArgsF Sl' as vs := by
  induction h with
  | nil => exact .nil
  | cons a _ ih => exact .cons (f _ _ _ a) ih

theorem step_call (ih : Snd prog w T hb n) (hnl : hb.NoLimit) (hc : Consts prog w T hb) : CallOk prog w T hb (n + 1) := by
  intro A fn as v a s vals pub rm hv hT hfn hst ha F
  have hv : zCallK (zRec T n) fn.const fn as = some v := hv
  cases hcon : fn.const with
  | some u =>
    rw [hcon] at hv
    cases as with
    | nil =>
      cases ha
      cases (show some u = some v from hv)
      obtain ⟨x, hx⟩ := hT
      exact hc x fn _ a hx hcon hfn A s pub n rm hst F
    | cons => exact noS hv
  | none =>
    rw [hcon] at hv
    obtain ⟨vars, hb', hv⟩ := bnd (show (bindArgsV fn.params as fn.dflts).bind (fun vars => (xSs T n fn.scope vars fn.body).bind fun q => some (retOf q)) = some v from hv)
    obtain ⟨r, hr, hv⟩ := bnd hv
    cases hv
    have noM : ∀ y md v, (y, md, v) ∈ vars → ownM md = false := fun y md v hy => by
      rcases bindArgs_modes hb' y md v hy with rfl | hm
      · rfl
      · obtain ⟨_, h, _⟩ := ArgsF.mem ha hm; exact h
    refine fun E Q q => call_enter ih rm (lent := s.heap.objs.size) hfn hnl hst F hb' hr (ha.imp fun md v cv ⟨h1, h2, h3⟩ => ?_) (fun y md v hy hm => by rw [noM y md v hy] at hm; cases hm)
      (fun y z my vy mz vz hy _ hm _ => by rw [noM y my vy hy] at hm; cases hm) (.inr noM) fun cv h' tk k ex ends => q cv h' tk (fun b o e => k b o e (.inr noM)) fun ok o => ?_
    · cases md with
      | P => exact h3 rfl
      | B => exact h2.exist.weaken fun a o => fun e => o.2 (by rw [e]; exact Heap.get?_none_of_le (Nat.le_refl _))
      | O => cases h1
      | M => cases h1
    · cases r with
      | next vars' => obtain ⟨rfl, _⟩ := ends; exact .none
      | ret v =>
        rcases o with rfl | rfl | ⟨_, rfl⟩
        · exact ends.1
        · exact ends.2.weaken pub.sub
        · exact ends.2
end
end Mine

namespace Mine
open PySem PySem.Calls PyProof.Rows PySem.W PySem.SeqAt

section
variable {prog : Program} {w : World} {T : Tab} {hb h : Heap} {n : Nat} {A : Around} {sc : Scope} {env : Env} {vars : Vars} {pub pb nb : Addr → Prop} {lent : Addr} {val : Str → Option Value} {s : Shared} {p : Bool} {v : PV}

theorem stays_ext {h h' : Heap} (x : Heap.ExtBut h.objs.size h h') : h.StaysIn h' := fun a o e => x a o (Nat.ne_of_lt (Heap.lt_size e)) e

theorem Frame.storeP {x : Str} {v : PV} {cv : Value} {pi : Addr → Prop} {Q : Unit → Shared → Prop} {E : Value → Shared → Prop} (F : Frame prog w hb sc env pb nb lent vars val s.heap) (hx : ownK sc x = true)
    (hr : VRep prog w s.heap pi v cv) (hpi : ∀ a, pi a → (pb a ∧ nb a) ∧ ¬ Wr sc env vars val a)
    (q : ∀ h' tk, Frame prog w hb sc env pb nb lent (setV x (.P, v) vars) (setF val x cv) h' → Adv (Wr sc env vars val) s.heap (Wr sc env (setV x (.P, v) vars) (setF val x cv)) h' →
      (∀ a, Wr sc env (setV x (.P, v) vars) (setF val x cv) a → Wr sc env vars val a) → Q () { s with heap := h', toks := tk }) : wpAny (model prog w) A (storeName env x cv) Q E s := by
  have hsl : NewSlot prog w hb s.heap pb nb nb (Wr sc env vars val) .P v cv := .inl ⟨rfl, hr.weaken hpi⟩
  have hwr : ∀ a, Wr sc env (setV x (.P, v) vars) (setF val x cv) a → Wr sc env vars val a := fun a q => (Frame.set_wr hsl a q).elim id fun e => by cases e.1
  exact F.store hx (fun _ x => x) hsl fun h' tk F' k ex => q h' tk F' ⟨k, fun a e => .inl (ex a e), fun a e => .inl (hwr a e)⟩ hwr

theorem bindTs_cons {t : Expr} {ts : List Expr} {v : PV} {vs : List PV} {vars vars' : Vars} {n : Nat} (e : bindTs (n + 1) sc (t :: ts) (v :: vs) vars = some vars') : ∃ vars1, bindT n sc t v vars = some vars1 ∧ bindTs n sc ts vs vars1 = some vars' ∧ assignEach (t :: ts) env = (false, assign t env) :: assignEach ts env := by
  obtain ⟨vars1, e1, e2⟩ := bnd (show (bindT n sc t v vars).bind (bindTs n sc ts vs) = some vars' from e)
  refine ⟨vars1, e1, e2, ?_⟩
  cases t with
  | Starred => cases n <;> exact noS e1
  | _ => rfl
theorem syn_each : ∀ (ts : List Expr) (vs : List PV) (n : Nat) (vars vars' : Vars), bindTs n sc ts vs vars = some vars' → (assignEach ts env).length = vs.length ∧ (assignEach ts env).findIdx? (·.1) = none
  | ts, vs, 0, _, _, e => noS e
  | [], [], n + 1, _, _, _ => ⟨rfl, rfl⟩
  | [], _ :: _, n + 1, _, _, e => noS e
  | _ :: _, [], n + 1, _, _, e => noS e
  | t :: ts, v :: vs, n + 1, vars, vars', e => by
    obtain ⟨vars1, e1, e2, nostar⟩ := bindTs_cons (env := env) e
    have := syn_each ts vs n vars1 vars' e2
    rw [nostar]
    exact ⟨congrArg (· + 1) this.1, by rw [List.findIdx?_cons, this.2]; rfl⟩

theorem bind_sound (hh : A.handled = none) : ∀ n : Nat,
    (∀ (t : Expr) (v : PV) (vars vars' : Vars) (val : Str → Option Value) (s : Shared) (cv : Value) (pi : Addr → Prop) (E : Value → Shared → Prop) (Q : Unit → Shared → Prop), bindT n sc t v vars = some vars' → Frame prog w hb sc env pb nb lent vars val s.heap →
      VRep prog w s.heap pi v cv → (∀ a, pi a → (pb a ∧ nb a) ∧ ¬ Wr sc env vars val a) →
      (∀ h' tk val', Frame prog w hb sc env pb nb lent vars' val' h' → Adv (Wr sc env vars val) s.heap (Wr sc env vars' val') h' → (∀ a, Wr sc env vars' val' a → Wr sc env vars val a) → Q () { s with heap := h', toks := tk }) →
      wpAny (model prog w) A (assign t env cv) Q E s) ∧
    (∀ (ts : List Expr) (vs : List PV) (vars vars' : Vars) (val : Str → Option Value) (s : Shared) (cs : List Value) (pi : Addr → Prop) (E : Value → Shared → Prop) (Q : Unit → Shared → Prop), bindTs n sc ts vs vars = some vars' → Frame prog w hb sc env pb nb lent vars val s.heap →
      VAll prog w s.heap pi vs cs → (∀ a, pi a → (pb a ∧ nb a) ∧ ¬ Wr sc env vars val a) →
      (∀ h' tk val', Frame prog w hb sc env pb nb lent vars' val' h' → Adv (Wr sc env vars val) s.heap (Wr sc env vars' val') h' → (∀ a, Wr sc env vars' val' a → Wr sc env vars val a) → Q () { s with heap := h', toks := tk }) →
      wpAny (model prog w) A (assignInOrder ((assignEach ts env).map (·.2)) cs) Q E s ∧ (assignEach ts env).length = vs.length ∧ (assignEach ts env).findIdx? (·.1) = none)
  | 0 => ⟨fun t v vars vars' val s cv pi E Q e => noS e, fun t v vars vars' val s cv pi E Q e => noS e⟩
  | n + 1 => by
    obtain ⟨ih1, ih2⟩ := bind_sound hh n
    refine ⟨fun t v vars vars' val s cv pi E Q e F r hpi q => ?_, fun ts vs vars vars' val s cs pi E Q e F r hpi q => ?_⟩
    · cases t with
      | Name x pos =>
        obtain ⟨hx, e⟩ := onlyIf (show (bif ownK sc x then some (setV x (.P, v) vars) else none) = some vars' from e)
        cases e
        exact wpAny_assign_Name (F.storeP hx r hpi fun h' tk F' adv hw => q h' tk _ F' adv hw)
      | Tuple es k pos =>
        obtain ⟨l, hl, e⟩ := bnd (show (tupL v).bind (fun l => bindTs n sc es l vars) = some vars' from e)
        obtain rfl := tupL_eq hl
        obtain ⟨a, items, rfl, ⟨m, hl⟩, ha⟩ := r.tup_inv
        have full := fun h' (x : Heap.ExtBut s.heap.objs.size s.heap h') => ih2 es l vars vars' val { s with heap := h' } items.toList pi E Q e (F.stays (stays_ext x)) (ha.stays (stays_ext x) fun _ x => x) hpi fun h'' tk val' F' adv hw =>
          q h'' tk val' F' ((Adv.stays (stays_ext x)).trans adv) hw
        obtain ⟨_, hlen, hst⟩ := full s.heap fun _ _ _ e => e
        refine wpAny_assign_Tuple hh ⟨_, hl, rfl, m, rfl⟩ ?_ hst fun h' x => (full h' x).1
        rw [hlen, ha.length]; rfl
      | _ => exact noS e
    · match ts, vs, r, e with
      | [], _ :: _, _, e => exact noS e
      | _ :: _, [], _, e => exact noS e
      | [], [], r, e =>
        cases (show some vars = some vars' from e)
        obtain rfl := r.nil_inv
        exact ⟨wpAny_pure (q s.heap s.toks val F (Adv.refl _ _) fun _ x => x), rfl, rfl⟩
      | t :: ts, v :: vs, r, e =>
        obtain ⟨cv, cs, rfl, r, rs⟩ := r.cons_inv
        obtain ⟨vars1, e1, e2, nostar⟩ := bindTs_cons (env := env) e
        rw [nostar]
        refine ⟨?_, ?_⟩
        · show wpAny _ _ (holding cs (assign t env cv) >>= fun _ => assignInOrder ((assignEach ts env).map (·.2)) cs) _ _ _
          refine wpAny_bind (wpAny_holding (ih1 t v vars vars1 val s cv pi E _ e1 F r hpi fun h1 tk1 val1 F1 adv1 hw1 => ?_))
          have rs' : VAll prog w h1 pi vs cs := rs.kp adv1.kp fun a o => ⟨(hpi a o).2, o⟩
          have hpi1 : ∀ a, pi a → (pb a ∧ nb a) ∧ ¬ Wr sc env vars1 val1 a := fun a o => ⟨(hpi a o).1, fun x => (hpi a o).2 (hw1 a x)⟩
          exact (ih2 ts vs vars1 vars' val1 { s with heap := h1, toks := tk1 } cs pi E Q e2 F1 rs' hpi1 fun h2 tk2 val2 F2 adv2 hw2 => q h2 tk2 val2 F2 (adv1.trans adv2) fun a x => hw1 a (hw2 a x)).1
        · have := syn_each (env := env) ts vs n vars1 vars' e2
          exact ⟨congrArg (· + 1) this.1, by rw [List.findIdx?_cons, this.2]; rfl⟩

theorem After.trans {W₀ W₁ : Addr → Prop} {h1 : Heap} {tk1 : Nat} {r : Res} {f : Flow} {s' : Shared} (adv : Adv W₀ s.heap W₁ h1)
    (aft : After prog w hb sc env pb nb lent W₁ { s with heap := h1, toks := tk1 } r f s') : After prog w hb sc env pb nb lent W₀ s r f s' := by
  obtain ⟨h2, tk2, rfl, x⟩ := aft
  refine ⟨h2, tk2, rfl, ?_⟩
  cases r with
  | next vars' => obtain ⟨a, val', F, b⟩ := x; exact ⟨a, val', F, adv.trans b⟩
  | ret v =>
    obtain ⟨cv, a, b, c, d, e⟩ := x
    exact ⟨cv, a, b, c, fun y o ey q => d y o (adv.kp y o ey q) (q.imp (fun n z => (adv.wr y z).elim n fun z => by rw [z] at ey; cases ey) id), fun y ey => (e y ey).elim (adv.ex y) fun w => (adv.wr y w).elim .inr .inl⟩

theorem After.mono' {W₀ V : Addr → Prop} {r : Res} {f : Flow} {s' : Shared} (aft : After prog w hb sc env pb nb lent W₀ s r f s') (m : ∀ a, W₀ a → V a) : After prog w hb sc env pb nb lent V s r f s' := by
  obtain ⟨h2, tk2, rfl, x⟩ := aft
  refine ⟨h2, tk2, rfl, ?_⟩
  cases r with
  | next vars' => obtain ⟨a, val', F, b⟩ := x; exact ⟨a, val', F, b.weaken m fun _ x => x⟩
  | ret v => obtain ⟨cv, a, b, c, d, e⟩ := x; exact ⟨cv, a, b, c, d.mono m, fun y ey => (e y ey).imp id (m y)⟩

theorem step_ss (ih : Snd prog w T hb n) : SsOk prog w T hb (n + 1) := by
  intro A sc env pb nb lent vars val s body r rm hv F E Q q
  cases body with
  | nil => cases (show some (Res.next vars) = some r from hv); exact wpAny_execs_nil (q _ _ ⟨s.heap, s.toks, rfl, rfl, val, F, Adv.refl _ _⟩)
  | cons st rest =>
    obtain ⟨r1, h1, hv⟩ := bnd (show (xS T n sc vars st).bind (zThen (zRec T n) sc rest) = some r from hv)
    refine wpAny_execs_cons (ih.s A sc env pb nb lent vars val s st r1 rm.pred h1 F E _ fun f s1 aft => ?_)
    cases r1 with
    | next vars1 =>
      obtain ⟨h1, tk1, rfl, rfl, val1, F1, adv⟩ := aft
      exact ih.ss A sc env pb nb lent vars1 val1 { s with heap := h1, toks := tk1 } rest r rm.pred hv F1 E Q fun f s2 aft2 => q f s2 (aft2.trans adv)
    | ret v =>
      cases (show some (Res.ret v) = some r from hv)
      have aft' := aft
      obtain ⟨h1, tk1, rfl, cv, rfl, _⟩ := aft
      exact q _ _ aft'

theorem s_if (ih : Snd prog w T hb n) (rm : Room A n) {t : Expr} {a b : List Stmt} {pos : Pos} {c : Bool} {r : Res} (F : Frame prog w hb sc env pb nb lent vars val s.heap)
    (ht : xT T n sc vars t = some c) (hv : (bif c then xSs T n sc vars a else xSs T n sc vars b) = some r) (E : Value → Shared → Prop) (Q : Flow → Shared → Prop)
    (q : ∀ f s', After prog w hb sc env pb nb lent (Wr sc env vars val) s r f s' → Q f s') : wpAny (model prog w) A (exec (.If t a b pos) env) Q E s := by
  refine wpAny_If (ih.t A sc env vars _ s t c rm ht F.reads F.fresh E _ fun h1 tk1 st1 => ?_)
  cases c with
  | true => exact ih.ss A sc env pb nb lent vars val { s with heap := h1, toks := tk1 } a r rm hv (F.stays st1) E Q fun f s2 aft => q f s2 (aft.trans (Adv.stays st1))
  | false => exact ih.ss A sc env pb nb lent vars val { s with heap := h1, toks := tk1 } b r rm hv (F.stays st1) E Q fun f s2 aft => q f s2 (aft.trans (Adv.stays st1))

theorem step_while (ih : Snd prog w T hb n) : WhileOk prog w T hb (n + 1) := by
  intro A sc env pb nb lent vars val s test body r rm hv F R q
  obtain ⟨c, hc, hv⟩ := bnd (show (xT T n sc vars test).bind (fun c => bif c then (xSs T n sc vars body).bind (zNextW (zRec T n) sc test body) else some (.next vars)) = some r from hv)
  refine codeAny_of_tree ?_
  show wpAny _ A ((whileTurn test body [] env).onRaise (fun x => do noteFrame x env; theTreesLotGoes x)) _ _ s
  refine wpAny_noted ?_
  simp only [whileTurn]
  refine wpAny_bind (ih.t A sc env vars _ s test c rm.pred hc F.reads F.fresh _ _ fun h1 tk1 st1 => ?_)
  cases c with
  | false =>
    cases (show some (Res.next vars) = some r from hv)
    exact wpAny_bind (wpAny_execs_nil (wpAny_pure (q _ _ ⟨h1, tk1, rfl, rfl, val, F.stays st1, Adv.stays st1⟩)))
  | true =>
    obtain ⟨r1, hr1, hv⟩ := bnd (show (xSs T n sc vars body).bind (zNextW (zRec T n) sc test body) = some r from hv)
    refine wpAny_bind (ih.ss A sc env pb nb lent vars val { s with heap := h1, toks := tk1 } body r1 rm.pred hr1 (F.stays st1) _ _ fun f s2 aft => ?_)
    have aft := aft.trans (Adv.stays st1)
    cases r1 with
    | next vars1 =>
      obtain ⟨h2, tk2, rfl, rfl, val1, F1, adv⟩ := aft
      exact wpAny_pure ⟨rfl, ih.while_ A sc env pb nb lent vars1 val1 { s with heap := h2, toks := tk2 } test body r rm.pred hv F1 R fun f s3 aft3 => q f s3 (aft3.trans adv)⟩
    | ret v =>
      cases (show some (Res.ret v) = some r from hv)
      have aft' := aft
      obtain ⟨h2, tk2, rfl, cv, rfl, _⟩ := aft
      exact wpAny_pure (q _ _ aft')
end
end Mine

namespace Mine
open PySem PySem.Calls PyProof.Rows PySem.W PySem.SeqAt

section
variable {prog : Program} {w : World} {T : Tab} {hb h : Heap} {n : Nat} {A : Around} {sc : Scope} {env : Env} {vars : Vars} {pub pb nb : Addr → Prop} {lent : Addr} {val : Str → Option Value} {s : Shared} {p : Bool} {v : PV}

theorem Adv.union {W W' : Addr → Prop} {h h' : Heap} (a : Adv W h W' h') (V : Addr → Prop) : Adv (fun x => W x ∨ V x) h (fun x => W' x ∨ V x) h' :=
  ⟨a.kp.mono fun _ => .inl, fun x e => (a.ex x e).imp id .inl, fun x y => y.elim (fun z => (a.wr x z).imp .inl id) fun z => .inl (.inr z)⟩

theorem kp_its {wr : Addr → Prop} {h h' : Heap} (hi : ∀ a, wr a → ItOb h a) (k : ∀ b o, ¬ wr b → h.get? b = some o → h'.get? b = some o) : Kp wr h h' := fun a o e q => by
  refine k a o (q.elim id fun t v => ?_) e
  obtain ⟨o', vs, e', d⟩ := hi a v
  rw [e] at e'; cases e'
  obtain ⟨_, xs, m, d'⟩ := t
  rw [d] at d'; cases d'
theorem ex_its {wr : Addr → Prop} {h h' : Heap} (hi : ∀ a, wr a → ItOb h' a) (k : ∀ b o, ¬ wr b → h.get? b = some o → h'.get? b = some o) : ∀ a, h'.get? a = none → h.get? a = none := fun a e => by
  by_cases hw : wr a
  · exact absurd e (hi a hw).some
  · cases q : h.get? a with
    | none => rfl
    | some o => rw [k a o hw q] at e; cases e

theorem ex_or {wr : Addr → Prop} {h h' : Heap} (k : ∀ b o, ¬ wr b → h.get? b = some o → h'.get? b = some o) : ∀ a, h'.get? a = none → h.get? a = none ∨ wr a := fun a e => by
  by_cases hw : wr a
  · exact .inr hw
  · left
    cases q : h.get? a with
    | none => rfl
    | some o => rw [k a o hw q] at e; cases e

theorem Turns.go {α : Type} {target : Expr} {I : Addr} {pi wr dep : Addr → Prop} {its : List PV} {St : Nat → Heap → Prop} (W : Turns prog w A target I pi wr dep its St) {i : Nat} {x : PV} {f : Option Value → Sem α} {k : Value → Sem α} {Q : α → Shared → Prop} {E : Value → Shared → Prop}
    (hx : its[i]? = some x) (st : St i s.heap) (hf : ∀ v, f (some v) = (letOwnedTupleGo target (.ref I) v >>= fun _ => k v))
    (q : ∀ v h' tk, VRep prog w h' pi x v → St (i + 1) h' → (∀ b o, ¬ wr b → s.heap.get? b = some o → h'.get? b = some o) → wpAny (model prog w) A (k v) Q E { s with heap := h', toks := tk }) :
    wpAny (model prog w) A (pyNext (.ref I)) (fun r s₁ => wpAny (model prog w) A (f r) Q E s₁) E s := by
  refine wpAny_mono (W.item i x s E (fun v s₂ => wpAny (model prog w) A (k v) Q E s₂) hx st fun v h1 tk1 rv st1 k => q v h1 tk1 rv st1 k) (fun r s₁ hr => ?_) fun _ _ e => e
  obtain ⟨v, rfl, hr⟩ := hr
  rw [hf]
  exact wpAny_bind hr

theorem step_for (ih : Snd prog w T hb n) : ForOk prog w T hb (n + 1) := by
  intro A sc env pb nb lent vars val s target body r I pi wr dep its St i rm hv F W st hi hpi hwr hdep hwb hpn R q
  refine codeAny_of_tree ?_
  show wpAny _ A ((forTurn target (.ref I) body [] env).onRaise (fun x => do noteFrame x env; theTreesLotGoes x)) _ _ s
  refine wpAny_noted ?_
  simp only [forTurn]
  refine wpAny_bind (wpAny_standAt (wpAny_bind (wpAny_onRaise ?_)))
  cases hx : its[i]? with
  | none =>
    have hlen : i = its.length := by have := List.getElem?_eq_none_iff.mp hx; (first | lia | omega)
    subst hlen
    rw [List.drop_length] at hv
    cases (show some (Res.next vars) = some r from hv)
    refine W.done s _ _ st fun h' tk k => wpAny_pure ⟨rfl, codeAny_block (wpAny_execs_nil (q _ _ ⟨h', tk, rfl, rfl, val, ?_, ?_⟩))⟩
    · exact F.move' (kp_its (fun a e => W.it _ _ a st e) k) (fun a e => .inl (W.it _ _ a st e)) (fun a e => (ex_or k a e).elim (F.pbf a) fun x => (hpn a x).1) hwb (fun _ x _ => x) fun a e => (ex_or k a e).elim (F.nbf a) fun x => (hpn a x).2
    · exact ⟨(kp_its (fun a e => W.it _ _ a st e) k).mono fun _ => .inr, fun a e => (ex_or k a e).imp id .inr, fun _ x => .inl (.inl x)⟩
  | some x =>
    have hdrop : its.drop i = x :: its.drop (i + 1) := by
      have hlt : i < its.length := (List.getElem?_eq_some_iff.mp hx).1
      rw [List.drop_eq_getElem_cons hlt, (List.getElem?_eq_some_iff.mp hx).2]
    have hlt : i < its.length := (List.getElem?_eq_some_iff.mp hx).1
    rw [hdrop] at hv
    obtain ⟨vars1, e1, hv⟩ := bnd (show (bindT n sc target x vars).bind (fun vars' => (xSs T n sc vars' body).bind (zNextF (zRec T n) sc target body (its.drop (i + 1)))) = some r from hv)
    obtain ⟨r1, e2, hv⟩ := bnd hv
    refine wpAny_mono (W.go hx st (fun v => rfl) fun v h1 tk1 rv st1 k => ?_) (fun _ _ x => x) fun _ _ e => wpAny_standAt e
    have kp1 := kp_its (fun a e => W.it _ _ a st e) k
    have ex1 := ex_its (fun a e => W.it _ _ a st1 e) k
    have F1 : Frame prog w hb sc env pb nb lent vars val h1 := F.move kp1 (fun a e => .inl (W.it _ _ a st e)) ex1 hwb (fun _ x _ => x) fun a e => F.nbf a (ex1 a e)
    have adv1 : Adv (fun a => Wr sc env vars val a ∨ wr a) s.heap (fun a => Wr sc env vars val a ∨ wr a) h1 := ⟨kp1.mono fun _ => .inr, fun a e => .inl (ex1 a e), fun _ x => .inl x⟩
    refine wpAny_bind ((bind_sound rm.h n).1 target x vars vars1 val { s with heap := h1, toks := tk1 } v pi _ _ e1 F1 rv (fun a o => ⟨(hpi a o).1, (hpi a o).2.1⟩) fun h2 tk2 val1 F2 adv2 hw2 => ?_)
    refine wpAny_bind (ih.ss A sc env pb nb lent vars1 val1 { s with heap := h2, toks := tk2 } body r1 rm.pred e2 F2 _ _ fun f s3 aft => ?_)
    have aft2 : After prog w hb sc env pb nb lent (fun a => Wr sc env vars val a ∨ wr a) s r1 f s3 := (aft.mono' (V := fun a => Wr sc env vars1 val1 a ∨ wr a) fun _ => .inl).trans (adv1.trans (adv2.union wr))
    cases r1 with
    | ret u =>
      cases (show some (Res.ret u) = some r from hv)
      have a' := aft2
      obtain ⟨h3, tk3, rfl, cv, rfl, _⟩ := aft2
      exact wpAny_pure (q _ _ a')
    | next vars2 =>
      obtain ⟨h3, tk3, rfl, rfl, val2, F3, adv3⟩ := aft
      have tot : Adv (Wr sc env vars val) h1 (Wr sc env vars2 val2) h3 := adv2.trans adv3
      have notW : ∀ a, ¬ Wr sc env vars val a → s.heap.get? a ≠ none → ¬ Wr sc env vars2 val2 a := fun a n1 n2 x => (tot.wr a x).elim n1 fun z => n2 (ex1 a z)
      have here : ∀ a, ¬ Wr sc env vars val a → s.heap.get? a ≠ none → h3.get? a ≠ none := fun a n e z => (tot.ex a z).elim (fun z => e (ex1 a z)) n
      have st3 : St (i + 1) h3 := W.frame (Wr sc env vars val) (i + 1) h1 h3 (fun a o => (hpi a o).2.1) hwr (fun a o => (hdep a o).1) tot.kp st1
      refine wpAny_pure ⟨rfl, ih.for_ A sc env pb nb lent vars2 val2 { s with heap := h3, toks := tk3 } target body r I pi wr dep its St (i + 1) rm.pred hv F3 W st3 hlt
        (fun a o => ⟨(hpi a o).1, notW a (hpi a o).2.1 (hpi a o).2.2, here a (hpi a o).2.1 (hpi a o).2.2⟩) (fun a o => notW a (hwr a o) (W.it _ _ a st o).some) (fun a o => ⟨notW a (hdep a o).1 (hdep a o).2, here a (hdep a o).1 (hdep a o).2⟩) hwb hpn R fun f s4 aft4 => ?_⟩
      exact q f s4 (aft4.trans (adv1.trans (tot.union wr)))

theorem Frame.freeze1 {x : Str} {v : PV} (F : Frame prog w hb sc env pb nb lent vars val h) (hx : look x vars = some (.O, v)) : Frame prog w hb sc env pb nb lent (setV x (.P, v) vars) val h ∧ ∀ a, Wr sc env (setV x (.P, v) vars) val a → Wr sc env vars val a := by
  have hwr : ∀ a, Wr sc env (setV x (.P, v) vars) val a → Wr sc env vars val a := by
    rintro a (rfl | hx' | ⟨y, my, vy, hy, hm, hv⟩)
    · exact .inl rfl
    · exact .inr (.inl hx')
    · by_cases hyx : y = x
      · subst hyx; rw [look_setV, if_pos rfl] at hy; cases hy; cases hm
      · rw [look_isSome hyx] at hy; exact .inr (.inr ⟨y, my, vy, hy, hm, hv⟩)
  have hsome : ∀ y, (look y (setV x (.P, v) vars)).isSome = true → (look y vars).isSome = true := fun y e => by
    by_cases hyx : y = x
    · subst hyx; rw [hx]; rfl
    · rwa [look_isSome hyx] at e
  refine ⟨{ F with
    ns := let ⟨m, a, b⟩ := F.ns; ⟨m, a, fun y cv h1 h2 h3 => b y cv h1 (hsome y h2) h3⟩
    cel := fun y hy => let ⟨c, u, a, b, d, e⟩ := F.cel y hy; ⟨c, u, a, b, d, fun cv h1 h2 => e cv (hsome y h1) h2⟩
    slots := fun y md u hy => ?_
    own1 := fun y z my vy mz vz a hy hmy hz hmz h1 h2 => ?_
    sepL := fun y md u hy hm => ?_
    old := fun a e => F.old a (hwr a e) }, hwr⟩
  · by_cases hyx : y = x
    · subst hyx
      rw [look_setV, if_pos rfl] at hy; cases hy
      obtain ⟨cv, hcv, hi, a, rfl, r, hp, hn⟩ := F.slots y .O v hx
      refine ⟨_, hcv, ?_⟩
      have notW : ∀ b, b = a ∧ Cont h b → ¬ Wr sc env (setV y (.P, v) vars) val b := by
        rintro b ⟨rfl, hc⟩ (rfl | ⟨z, hz, hc'⟩ | ⟨z, mz, vz, hz, hm, hv⟩)
        · exact F.sepL y .O v hx rfl hcv
        · obtain ⟨c, w', h1, h2, _⟩ := F.cel z (.inl hz)
          rw [hc'] at h1; cases h1; exact cell_cont h2 hc
        · by_cases hzy : z = y
          · subst hzy; rw [look_setV, if_pos rfl] at hz; cases hz; cases hm
          · rw [look_isSome hzy] at hz
            exact hzy (F.own1 z y mz vz .O v b hz hm hx rfl hv hcv)
      exact r.here.weaken fun b o => ⟨by obtain ⟨rfl, _⟩ := o; exact ⟨hp, hn⟩, notW b o⟩
    · rw [look_isSome hyx] at hy
      obtain ⟨cv, h1, h2⟩ := F.slots y md u hy
      exact ⟨cv, h1, h2.move (Kp.refl (fun _ => False) h) (fun a _ hna hw => ⟨id, hna, fun e => hw (hwr a e)⟩) fun _ a _ hna _ => ⟨id, hna⟩⟩
  · have old : ∀ y my vy, look y (setV x (.P, v) vars) = some (my, vy) → ownM my = true → look y vars = some (my, vy) := fun y my vy hy hm => by
      by_cases hyx : y = x
      · subst hyx; rw [look_setV, if_pos rfl] at hy; cases hy; cases hm
      · rwa [look_isSome hyx] at hy
    exact F.own1 y z my vy mz vz a (old y my vy hy hmy) hmy (old z mz vz hz hmz) hmz h1 h2
  · by_cases hyx : y = x
    · subst hyx; rw [look_setV, if_pos rfl] at hy; cases hy; cases hm
    · rw [look_isSome hyx] at hy; exact F.sepL y md u hy hm
theorem Frame.frozen (it : Expr) (F : Frame prog w hb sc env pb nb lent vars val h) : Frame prog w hb sc env pb nb lent (freeze it vars) val h ∧ ∀ a, Wr sc env (freeze it vars) val a → Wr sc env vars val a := by
  unfold Mine.freeze
  cases walked it with
  | none => exact ⟨F, fun _ x => x⟩
  | some x =>
    dsimp only
    split
    · rename_i hx; exact F.freeze1 hx
    · exact ⟨F, fun _ x => x⟩

theorem iterS_noset {vars : Vars} {tup : Bool} {e : Expr} {its : List PV} (h : xIterS T n sc vars tup e = some its) : ∀ elts k pos, e ≠ .Set elts k pos := by
  rintro elts k pos rfl
  cases n with
  | zero => exact noS h
  | succ n => cases n <;> exact noS h

theorem s_for (ih : Snd prog w T hb n) (rm : Room A n) {t it : Expr} {body : List Stmt} {pos : Pos} {items : List PV} {r : Res} (F : Frame prog w hb sc env pb nb lent vars val s.heap)
    (h1 : xIterS T n sc (Mine.freeze it vars) (isTupT t) it = some items) (h2 : xFor T n sc (Mine.freeze it vars) t body items = some r) (E : Value → Shared → Prop) (Q : Flow → Shared → Prop)
    (q : ∀ f s', After prog w hb sc env pb nb lent (Wr sc env vars val) s r f s' → Q f s') : wpAny (model prog w) A (exec (.For t it body [] pos) env) Q E s := by
  obtain ⟨F1, hw⟩ := F.frozen it
  refine wpAny_For (ih.iterS A sc env pb nb lent (Mine.freeze it vars) val s t (isTupT t) it items rm h1 id F1 E _ fun itv s2 pk => ?_) (folded_of (iterS_noset h1))
  obtain ⟨I, wr, dep, St, h', tk, rfl, rfl, st, W, st0, hwr, hdep⟩ := pk
  have inS : ∀ a, Wr sc env (Mine.freeze it vars) val a → s.heap.get? a ≠ none := fun a e => (F1.wr_mut e).some
  refine ih.for_ A sc env pb nb lent (Mine.freeze it vars) val { s with heap := h', toks := tk } t body r I _ wr dep items St 0 rm (by simpa using h2) (F1.stays st) W st0 (Nat.zero_le _)
    (fun a o => ⟨o.1.1, o.1.2, o.2⟩) (fun a o e => inS a e (hwr a o)) (fun a o => ⟨fun e => (hdep a o).2.elim (inS a e) fun k => k e, (hdep a o).1⟩) (fun a o => none_of_stays F.base (hwr a o)) (fun a o => ⟨F1.pbf a (hwr a o), F1.nbf a (hwr a o)⟩) _ fun f s3 aft => ?_
  refine q f s3 ?_
  have adv : Adv (Wr sc env vars val) s.heap (fun a => Wr sc env (Mine.freeze it vars) val a ∨ wr a) h' := ⟨Kp.of_stays st, fun _ e => .inl (none_of_stays st e), fun a e => e.elim (fun e => .inl (hw a e)) fun e => .inr (hwr a e)⟩
  exact aft.trans adv
end
end Mine

namespace Mine
open PySem PySem.Calls PyProof.Rows PySem.W PySem.SeqAt

section
variable {prog : Program} {w : World} {T : Tab} {hb h h₀ h' : Heap} {n : Nat} {A : Around} {sc : Scope} {env : Env} {vars : Vars} {pub : Pubs} {pl pb nb : Addr → Prop} {lent : Addr} {val : Str → Option Value} {s : Shared} {p : Bool} {v : PV}

theorem look_borrow (x : Str) : ∀ vars : Vars, look x (borrow vars) = (look x vars).map fun sl => (.B, sl.2)
  | [] => rfl
  | (y, md, u) :: r => by
    unfold borrow look
    split
    · rfl
    · exact look_borrow x r
theorem Reads.borrow (R : Reads prog w hb sc env pub vars h) (p' : Addr → Prop) : Reads prog w hb sc env ⟨p', fun _ => True, fun _ _ => trivial⟩ (Mine.borrow vars) h := { R with
  vars := by
    obtain ⟨m, hn, r⟩ := R.vars
    refine ⟨m, hn, fun x md v hx => ?_⟩
    rw [look_borrow] at hx
    cases q : look x vars with
    | none => rw [q] at hx; cases hx
    | some sl =>
      obtain ⟨md', u⟩ := sl
      rw [q] at hx; cases hx
      obtain ⟨cv, h1, _, h3, h4⟩ := r x md' u q
      exact ⟨cv, h1.weaken fun _ _ => trivial, (fun e => by cases e), h3, h4⟩ }
theorem own_of {v : PV} {cv : Value} {ok : Addr → Prop} (hc : isCont v = true) (hi : okItems v = true) (r : VRep prog w h ok v cv) : ∃ a, cv = .ref a ∧ VRep prog w h (fun b => b = a) v cv ∧ ok a := by
  cases r with
  | list o hl ha => exact ⟨_, rfl, .list rfl hl (imms_any hi ha), o⟩
  | dictT xs o hd n e ha =>
    have hi' : PV.imms _ = true := (Bool.and_eq_true_iff.mp hi).2
    exact ⟨_, rfl, .dictT xs rfl hd n e (imms_any hi' ha), o⟩
  | dictA xs o hd n e ha =>
    have hi' : PV.imms _ = true := (Bool.and_eq_true_iff.mp hi).2
    exact ⟨_, rfl, .dictA xs rfl hd n e (imms_any hi' ha), o⟩
  | _ => cases hc

theorem step_slot (ih : Snd prog w T hb n) : SlotOk prog w T hb (n + 1) := by
  intro A sc env vars pub s e md v rm hv R F E Q q
  have hv : (bif isDisplay e then (xE T n sc (Mine.borrow vars) e).bind ownP else (xE T n sc vars e).bind pubM) = some (md, v) := hv
  cases hdis : isDisplay e with
  | true =>
    rw [hdis] at hv
    obtain ⟨a, ha, hv⟩ := bnd hv
    unfold ownP at hv
    split at hv
    · rename_i hc
      simp only [Bool.and_eq_true] at hc
      cases hv
      refine ih.e A sc env (Mine.borrow vars) ⟨fun b => s.heap.get? b = none, fun _ => True, fun _ _ => trivial⟩ s e a.1 a.2 rm.pred ha (R.borrow _) (fun _ e => e) E _ fun cv h1 tk1 st1 r1 => ?_
      obtain ⟨x, h2, h3, h4⟩ := own_of hc.2 hc.1.2 (r1 _ (.inr (.inr ⟨hc.1.1, rfl⟩)))
      exact q cv h1 tk1 st1 (.inr ⟨rfl, hc.1.2, x, h2, h3, h4⟩)
    · cases hv
  | false =>
    rw [hdis] at hv
    obtain ⟨a, ha, hv⟩ := bnd hv
    unfold pubM at hv
    split at hv
    · rename_i hc
      cases hv
      exact ih.e A sc env vars pub s e a.1 a.2 rm.pred ha R F E _ fun cv h1 tk1 st1 r1 => q cv h1 tk1 st1 (.inl ⟨rfl, r1 _ (.inr (.inr ⟨hc, rfl⟩))⟩)
    · cases hv

noncomputable def Pubs.but (pub : Pubs) (a : Addr) : Pubs := ⟨fun b => pub.p b ∧ b ≠ a, pub.nw, fun b o => pub.sub b o.1⟩
theorem Reads.avoid {a : Addr} (R : Reads prog w hb sc env pub vars h) (st : h.StaysIn h') (ha : h.get? a = none) : Reads prog w hb sc env (pub.but a) vars h' := { R.stays st with
  vars := by
    obtain ⟨m, hn, r⟩ := R.vars
    refine ⟨m, hn.keeps st, fun x md v hx => ?_⟩
    obtain ⟨cv, h1, h2, h3, h4⟩ := r x md v hx
    exact ⟨cv, h1.stays st fun _ x => x, fun e => (h2 e).exist.stays st fun b o => ⟨o.1, fun e => o.2 (e ▸ ha)⟩, h3, fun e => let ⟨c, a, b⟩ := h4 e; ⟨c, a, b.keeps st⟩⟩ }

theorem SlotsGot.fresh {ss : List (Mode × PV)} {cs : List Value} {D : List Addr} (g : SlotsGot prog w h₀ h pl ss cs D) : ∀ a ∈ D, h₀.get? a = none := by
  induction g with
  | nil => intro a ha; cases ha
  | pub _ _ ih => exact ih
  | own _ _ hn _ _ ih =>
    intro a ha
    rcases List.mem_cons.mp ha with rfl | ha
    · exact hn
    · exact ih a ha
theorem SlotsGot.back {h₁ : Heap} {ss : List (Mode × PV)} {cs : List Value} {D : List Addr} (g : SlotsGot prog w h₁ h pl ss cs D) (st : h₀.StaysIn h₁) : SlotsGot prog w h₀ h pl ss cs D := by
  induction g with
  | nil => exact .nil
  | pub a _ ih => exact .pub a ih
  | own hi hr hn hd _ ih => exact .own hi hr (none_of_stays st hn) hd ih

theorem step_slots (ih : Snd prog w T hb n) : SlotsOk prog w T hb (n + 1) := by
  intro A sc env vars pub s es ss rm hv R F pos E Q q
  cases es with
  | nil => cases (show some [] = some ss from hv); exact wpAny_items_nil (q _ s.heap s.toks [] (stays_refl _) .nil (fun a ha => by cases ha))
  | cons e r =>
    obtain ⟨⟨md, v⟩, ha, hv⟩ := bnd (show (xSlot T n sc vars e).bind (fun s => (xSlots T n sc vars r).bind fun ss => some (s :: ss)) = some ss from hv)
    obtain ⟨as, has, hv⟩ := bnd hv
    cases hv
    have star : starEach (e :: r) env = (false, eval e env) :: starEach r env := by
      cases e with
      | Starred => cases n with
        | zero => exact noS ha
        | succ n => cases n <;> exact noS ha
      | _ => rfl
    refine wpAny_items_cons ?_ star
    refine ih.slot A sc env vars pub s e md v rm.pred ha R F E _ fun c1 h1 tk1 st1 g1 => ?_
    rcases g1 with ⟨rfl, r1⟩ | ⟨rfl, hi, a, rfl, r1, hn⟩
    · refine ih.slots A sc env vars pub { s with heap := h1, toks := tk1 } r as rm.pred has (R.stays st1) (fresh_stays F st1) pos E _ fun cs h2 tk2 D st2 g2 hD => ?_
      refine q _ h2 tk2 D (stays_trans st1 st2) (.pub (r1.exist.stays st2 fun b o => ⟨o.1, fun hm => o.2 (g2.fresh b hm)⟩) (g2.back st1)) hD
    · have hex : h1.get? a ≠ none := r1.ref_some.some
      refine ih.slots A sc env vars (pub.but a) { s with heap := h1, toks := tk1 } r as rm.pred has (R.avoid st1 hn) (fun b e => ⟨F b (none_of_stays st1 e), fun q => hex (q ▸ e)⟩) pos E _ fun cs h2 tk2 D st2 g2 hD => ?_
      refine q _ h2 tk2 (a :: D) (stays_trans st1 st2) (.own hi (r1.stays st2 fun _ x => x) hn (fun hm => hex (g2.fresh a hm)) (g2.back st1)) fun b hb' => ?_
      rcases List.mem_cons.mp hb' with rfl | hb'
      · exact fun e => hex (none_of_stays st2 e)
      · exact hD b hb'

inductive Sl2 (prog : Program) (w : World) (h₀ h : Heap) (pl Z : Addr → Prop) : List (Mode × PV) → List Value → List Addr → Prop
  | nil : Sl2 prog w h₀ h pl Z [] [] []
  | pub {v : PV} {cv : Value} {ss : List (Mode × PV)} {cs : List Value} {D : List Addr} (a : VRep prog w h (fun a => pl a ∧ ¬ Z a) v cv) (r : Sl2 prog w h₀ h pl Z ss cs D) : Sl2 prog w h₀ h pl Z ((.P, v) :: ss) (cv :: cs) D
  | own {v : PV} {a : Addr} {ss : List (Mode × PV)} {cs : List Value} {D : List Addr} (hi : okItems v = true) (hr : VRep prog w h (fun b => b = a) v (.ref a)) (hn : h₀.get? a = none) (hz : Z a) (r : Sl2 prog w h₀ h pl Z ss cs D) :
      Sl2 prog w h₀ h pl Z ((.O, v) :: ss) (.ref a :: cs) (a :: D)
theorem Sl2.congr {Z Z' : Addr → Prop} {ss : List (Mode × PV)} {cs : List Value} {D : List Addr} (g : Sl2 prog w h₀ h pl Z ss cs D) (e : ∀ a, Z a ↔ Z' a) : Sl2 prog w h₀ h pl Z' ss cs D := by
  induction g with
  | nil => exact .nil
  | pub a _ ih => exact .pub (a.weaken fun b o => ⟨o.1, fun z => o.2 ((e b).mpr z)⟩) ih
  | own hi hr hn hz _ ih => exact .own hi hr hn ((e _).mp hz) ih
theorem Sl2.append {Z : Addr → Prop} {ss ss2 : List (Mode × PV)} {cs cs2 : List Value} {D D2 : List Addr} (g : Sl2 prog w h₀ h pl Z ss cs D) (g2 : Sl2 prog w h₀ h pl Z ss2 cs2 D2) : Sl2 prog w h₀ h pl Z (ss ++ ss2) (cs ++ cs2) (D ++ D2) := by
  induction g with
  | nil => exact g2
  | pub a _ ih => exact .pub a ih
  | own hi hr hn hz _ ih => exact .own hi hr hn hz ih
theorem Sl2.reverse {Z : Addr → Prop} {ss : List (Mode × PV)} {cs : List Value} {D : List Addr} (g : Sl2 prog w h₀ h pl Z ss cs D) : Sl2 prog w h₀ h pl Z ss.reverse cs.reverse D.reverse := by
  induction g with
  | nil => exact .nil
  | pub a _ ih => simpa using ih.append (.pub a .nil)
  | own hi hr hn hz _ ih => simpa using ih.append (.own hi hr hn hz .nil)
theorem Sl2.kp {Z V : Addr → Prop} {ss : List (Mode × PV)} {cs : List Value} {D : List Addr} (g : Sl2 prog w h₀ h pl Z ss cs D) (k : Kp V h h') (hV : ∀ a, pl a → ¬ Z a → ¬ V a) (hZ : ∀ a ∈ D, ¬ V a) : Sl2 prog w h₀ h' pl Z ss cs D := by
  induction g with
  | nil => exact .nil
  | pub a _ ih => exact .pub (a.kp k fun b o => ⟨hV b o.1 o.2, o⟩) (ih hZ)
  | own hi hr hn hz _ ih => exact .own hi (hr.kp k fun b o => ⟨by subst o; exact hZ _ (.head _), o⟩) hn hz (ih fun a ha => hZ a (.tail _ ha))
theorem SlotsGot.sl2 {pub1 : Addr → Prop} {ss : List (Mode × PV)} {cs : List Value} {D : List Addr} (g : SlotsGot prog w h₀ h pub1 ss cs D) : ∀ (pre : List Addr), (∀ b, pub1 b → pl b ∧ b ∉ pre) →
    Sl2 prog w h₀ h pl (fun b => b ∈ pre ∨ b ∈ D) ss cs D ∧ D.Nodup := by
  induction g with
  | nil => exact fun _ _ => ⟨.nil, List.nodup_nil⟩
  | pub a _ ih => exact fun pre hp => ⟨.pub (a.weaken fun b o => ⟨(hp b o.1).1, fun z => z.elim (hp b o.1).2 o.2⟩) (ih pre hp).1, (ih pre hp).2⟩
  | @own pub1 v a ss cs D hi hr hn hd _ ih =>
    intro pre hp
    obtain ⟨g, nd⟩ := ih (a :: pre) fun b o => ⟨(hp b o.1).1, fun m => (List.mem_cons.mp m).elim o.2 (hp b o.1).2⟩
    refine ⟨.own hi hr hn (.inr (.head _)) (g.congr fun b => ?_), List.nodup_cons.mpr ⟨hd, nd⟩⟩
    simp only [List.mem_cons]
    constructor
    · rintro ((rfl | x) | x)
      · exact .inr (.inl rfl)
      · exact .inl x
      · exact .inr (.inr x)
    · rintro (x | rfl | x)
      · exact .inl (.inr x)
      · exact .inl (.inl rfl)
      · exact .inr x

theorem Sl2.inZ {Z : Addr → Prop} {ss : List (Mode × PV)} {cs : List Value} {D : List Addr} (g : Sl2 prog w h₀ h pl Z ss cs D) : ∀ a ∈ D, Z a := by
  induction g with
  | nil => intro a ha; cases ha
  | pub _ _ ih => exact ih
  | own _ _ _ hz _ ih =>
    intro a ha
    rcases List.mem_cons.mp ha with rfl | ha
    · exact hz
    · exact ih a ha

theorem Frame.wr_nb (F : Frame prog w hb sc env pb nb lent vars val h) {a : Addr} (x : Wr sc env vars val a) : nb a := by
  rcases x with rfl | ⟨x, hx, hc⟩ | ⟨x, md, v, hx, hm, hv⟩
  · exact F.nbL
  · obtain ⟨c, u, hl, _, hn, _⟩ := F.cel x (.inl hx)
    rw [hc] at hl; cases hl; exact hn
  · obtain ⟨cv, hcv, s⟩ := F.slots x md v hx
    rw [hv] at hcv; cases hcv
    obtain ⟨_, b, e, _, hn⟩ := s.own hm
    cases e; exact hn

noncomputable def Stores (prog : Program) (w : World) (A : Around) (env : Env) (t : Value → Sem Unit) (x : Str) : Prop := ∀ (v : Value) (s : Shared) (E : Value → Shared → Prop) (Q : Unit → Shared → Prop), wpAny (model prog w) A (storeName env x v) Q E s → wpAny (model prog w) A (t v) Q E s
inductive StoresAll (prog : Program) (w : World) (A : Around) (env : Env) : List (Value → Sem Unit) → List Str → Prop
  | nil : StoresAll prog w A env [] []
  | cons {t : Value → Sem Unit} {x : Str} {ts : List (Value → Sem Unit)} {xs : List Str} (a : Stores prog w A env t x) (r : StoresAll prog w A env ts xs) : StoresAll prog w A env (t :: ts) (x :: xs)

theorem store_all {Z W₀ : Addr → Prop} (hZ : ∀ a, Z a → hb.get? a = none ∧ pb a ∧ nb a) : ∀ (xs : List Str) (ts : List (Value → Sem Unit)) (ss : List (Mode × PV)) (cs : List Value) (D : List Addr) (vars vars' : Vars) (val : Str → Option Value) (s : Shared) (E : Value → Shared → Prop) (Q : Unit → Shared → Prop),
    setAll xs ss vars = some vars' → (∀ x ∈ xs, ownK sc x = true) → StoresAll prog w A env ts xs → Frame prog w hb sc env pb (fun b => nb b ∧ b ∉ D) lent vars val s.heap → Sl2 prog w h₀ s.heap (fun a => (pb a ∧ nb a) ∧ ¬ W₀ a) Z ss cs D → D.Nodup →
    (∀ a, Wr sc env vars val a → W₀ a ∨ Z a) →
    (∀ h' tk val', Frame prog w hb sc env pb nb lent vars' val' h' → Kp (fun a => W₀ a ∨ Z a) s.heap h' → (∀ a, h'.get? a = none → s.heap.get? a = none ∨ (W₀ a ∨ Z a)) → (∀ a, Wr sc env vars' val' a → W₀ a ∨ Z a) → Q () { s with heap := h', toks := tk }) →
    wpAny (model prog w) A (assignInOrder ts cs) Q E s
  | [], ts, ss, cs, D, vars, vars', val, s, E, Q, e, _, hts, F, g, nd, hw, q => by
    cases ss with
    | cons => exact noS e
    | nil =>
      cases g; cases hts; cases (show some vars = some vars' from e)
      refine wpAny_pure (q s.heap s.toks val ?_ (Kp.refl _ _) (fun _ x => .inl x) hw)
      exact F.narrow (stays_refl _) (fun a x _ => x.1) fun a x => (F.nbf a x).1
  | x :: xs, ts, ss, cs, D, vars, vars', val, s, E, Q, e, hxs, hts, F, g, nd, hw, q => by
    cases hts with | cons st hts =>
    rename_i t ts
    cases g with
    | nil => exact noS e
    | @pub v cv ss cs D a r =>
      have e : setAll xs ss (setV x (.P, v) vars) = some vars' := e
      refine wpAny_bind (wpAny_holding (st cv s E _ (F.storeP (hxs x (.head _)) a (fun b o => ⟨⟨o.1.1.1, o.1.1.2, fun m => o.2 (Sl2.inZ r b m)⟩, fun y => (hw b y).elim o.1.2 o.2⟩) fun h1 tk1 F1 adv1 hw1 => ?_)))
      have r' := r.kp adv1.kp (fun b hp hz y => (hw b y).elim hp.2 hz) fun b hb' y => (F.wr_nb y).2 hb'
      exact store_all hZ xs ts ss cs D _ vars' _ { s with heap := h1, toks := tk1 } E Q e (fun y hy => hxs y (.tail _ hy)) hts F1 r' nd (fun b y => hw b (hw1 b y)) fun h2 tk2 val2 F2 k2 ex2 hw2 =>
        q h2 tk2 val2 F2 ((adv1.kp.mono hw).trans k2) (fun b y => (ex2 b y).elim (fun z => (adv1.ex b z).imp id (hw b)) .inr) hw2
    | @own v a ss cs D hi hr hn hz r =>
      have e : setAll xs ss (setV x (.O, v) vars) = some vars' := e
      have nd' := List.nodup_cons.mp nd
      have hsl : NewSlot prog w hb s.heap pb (fun b => nb b ∧ b ∉ D) (fun b => nb b ∧ b ∉ a :: D) (Wr sc env vars val) .O v (.ref a) :=
        .inr ⟨rfl, hi, a, rfl, hr, (hZ a hz).2.1, ⟨(hZ a hz).2.2, nd'.1⟩, fun o => o.2 (.head _), (hZ a hz).1⟩
      refine wpAny_bind (wpAny_holding (st (.ref a) s E _ (F.store (hxs x (.head _)) (fun b o => ⟨o.1, fun m => o.2 (.tail _ m)⟩) hsl fun h1 tk1 F1 k1 ex1 => ?_)))
      have r' := r.kp k1 (fun b hp hz y => (hw b y).elim hp.2 hz) fun b hb' y => (F.wr_nb y).2 (.tail _ hb')
      have hw1 : ∀ b, Wr sc env (setV x (.O, v) vars) (setF val x (.ref a)) b → W₀ b ∨ Z b := fun b y => (Frame.set_wr hsl b y).elim (hw b) fun e => by cases e.2; exact .inr hz
      exact store_all hZ xs ts ss cs D _ vars' _ { s with heap := h1, toks := tk1 } E Q e (fun y hy => hxs y (.tail _ hy)) hts F1 r' nd'.2 hw1 fun h2 tk2 val2 F2 k2 ex2 hw2 =>
        q h2 tk2 val2 F2 ((k1.mono hw).trans k2) (fun b y => (ex2 b y).imp (ex1 b) id) hw2
end
end Mine

namespace Mine
open PySem PySem.Calls PyProof.Rows PySem.W PySem.SeqAt

section
variable {prog : Program} {w : World} {T : Tab} {hb h h₀ h' : Heap} {n : Nat} {A : Around} {sc : Scope} {env : Env} {vars : Vars} {pub pb nb : Addr → Prop} {lent : Addr} {val : Str → Option Value} {s : Shared} {p : Bool} {v : PV}

theorem noneIn_iff {x : Str} : ∀ {l : List Str}, noneIn x l = true → x ∉ l
  | [], _, h => by cases h
  | y :: r, e, h => by
    simp only [noneIn, Bool.and_eq_true, Bool.not_eq_true'] at e
    rcases List.mem_cons.mp h with rfl | h
    · rw [strEq_self] at e; cases e.1
    · exact noneIn_iff e.2 h
theorem allApart_nodup : ∀ {l : List Str}, allApart l = true → l.Nodup
  | [], _ => List.nodup_nil
  | x :: r, e => by
    simp only [allApart, Bool.and_eq_true] at e
    exact List.nodup_cons.mpr ⟨noneIn_iff e.1, allApart_nodup e.2⟩
theorem eraseDups_nodup : ∀ {l : List Str}, l.Nodup → l.eraseDups = l
  | [], _ => rfl
  | x :: r, e => by
    have e' := List.nodup_cons.mp e
    rw [List.eraseDups_cons]
    have : r.filter (fun b => !b == x) = r := List.filter_eq_self.mpr fun b hb' => by
      have : b ≠ x := fun q => e'.1 (q ▸ hb')
      simpa using this
    rw [this, eraseDups_nodup e'.2]

theorem slots_nostar {vars : Vars} : ∀ {es : List Expr} {n : Nat} {ss : List (Mode × PV)}, xSlots T n sc vars es = some ss → (es.any fun | .Starred .. => true | _ => false) = false ∧ ss.length = es.length
  | [], n, ss, h => by
    cases n with
    | zero => exact noS h
    | succ n => cases (show some [] = some ss from h); exact ⟨rfl, rfl⟩
  | e :: r, n, ss, h => by
    cases n with
    | zero => exact noS h
    | succ n =>
      obtain ⟨a, ha, hv⟩ := bnd (show (xSlot T n sc vars e).bind (fun s => (xSlots T n sc vars r).bind fun ss => some (s :: ss)) = some ss from h)
      obtain ⟨as, has, hv⟩ := bnd hv
      cases hv
      obtain ⟨h1, h2⟩ := slots_nostar has
      refine ⟨?_, by simp [h2]⟩
      rw [List.any_cons, h1, Bool.or_false]
      cases e with
      | Starred =>
        cases n with
        | zero => exact noS ha
        | succ n => cases n <;> exact noS ha
      | _ => rfl

theorem kindOf_kind {x : Str} {k : NameKind} (hkok : ∀ x k, kindIn x sc.names = some k → env.kindOf x = some k ∨ (k = .free ∧ env.kindOf x = some .cell)) (h : kindIn x sc.names = some k) (hk : k ≠ .free) : env.kindOf x = some k :=
  (hkok x k h).elim id fun e => absurd e.1 hk

theorem rowNames_filter (hkok : ∀ x k, kindIn x sc.names = some k → env.kindOf x = some k ∨ (k = .free ∧ env.kindOf x = some .cell)) {line : Nat} : ∀ {ts : List Expr} {l : List Str}, rowNames sc line ts = some l →
    (ts.filterMap fun | .Name id pos => if env.kindOf id == some .local && pos.line == line then some id else none | _ => none) = l ∧ l.length = ts.length ∧ ∀ x ∈ l, kindIn x sc.names = some .local
  | [], l, h => by cases h; exact ⟨rfl, rfl, fun x hx => by cases hx⟩
  | t :: r, l, h => by
    obtain ⟨⟨x, p⟩, hn, h2⟩ := bnd (show (nameOf2 t).bind (fun x => bif isLoc (kindIn x.1 sc.names) && x.2.line == line then (rowNames sc line r).bind (fun q => some (x.1 :: q)) else none) = some l from h)
    obtain rfl := nameOf2_eq hn
    obtain ⟨hc, h2⟩ := onlyIf h2
    obtain ⟨hk, hl⟩ := two hc
    have hk := isLoc_eq hk
    obtain ⟨l', h1, h2⟩ := bnd h2
    cases h2
    obtain ⟨i1, i2, i3⟩ := rowNames_filter hkok h1
    refine ⟨?_, congrArg (· + 1) i2, fun y hy => ?_⟩
    · refine (List.filterMap_cons_some (b := x) ?_).trans (congrArg (x :: ·) i1)
      show (if (env.kindOf x == some .local && p.line == line) = true then some x else none) = some x
      rw [kindOf_kind hkok hk (by decide), hl]
      rfl
    · rcases List.mem_cons.mp hy with rfl | hy
      · exact hk
      · exact i3 y hy
theorem tsNames_mem : ∀ {ts : List Expr} {l : List Str}, tsNames ts = some l → l.length = ts.length ∧ StoresAll prog w A env ((assignEach ts env).map (·.2)) l ∧ (assignEach ts env).length = ts.length ∧ (assignEach ts env).findIdx? (·.1) = none ∧ ∀ x ∈ l, ∃ p, Expr.Name x p ∈ ts
  | [], l, h => by cases h; exact ⟨rfl, .nil, rfl, rfl, fun x hx => by cases hx⟩
  | t :: r, l, h => by
    obtain ⟨x, hn, h2⟩ := bnd (show (nameOf t).bind (fun x => (tsNames r).bind (fun q => some (x :: q))) = some l from h)
    obtain ⟨p, rfl⟩ := nameOf_eq hn
    obtain ⟨l', h1, h2⟩ := bnd h2
    cases h2
    obtain ⟨i1, i2, i3, i4, i5⟩ := tsNames_mem h1
    refine ⟨congrArg (· + 1) i1, .cons (fun v s E Q q => wpAny_assign_Name q) i2, congrArg (· + 1) i3, ?_, fun y hy => ?_⟩
    · show ((false, assign (.Name x p) env) :: assignEach r env).findIdx? (·.1) = none
      rw [List.findIdx?_cons, i4]; rfl
    · rcases List.mem_cons.mp hy with rfl | hy
      · exact ⟨p, .head _⟩
      · obtain ⟨p', hp⟩ := i5 y hy; exact ⟨p', .tail _ hp⟩

theorem filterMap_lt {ts : List Expr} {f : Expr → Option Str} {t : Expr} (ht : t ∈ ts) (hf : f t = none) : (ts.filterMap f).length < ts.length := by
  induction ts with
  | nil => cases ht
  | cons a r ih =>
    rw [List.filterMap_cons]
    rcases List.mem_cons.mp ht with rfl | ht
    · rw [hf]; simp only [List.length_cons]; have := List.length_filterMap_le f r; omega
    · have := ih ht
      cases f a <;> simp only [List.length_cons] <;> omega

theorem ite_both {α : Type} {c : Prop} [Decidable c] {a b : α} (h : b = a) : (if c then a else b) = a := by
  by_cases q : c
  · exact if_pos q
  · exact (if_neg q).trans h
theorem swapped_none {ts es : List Expr} {k k2 : Nat} {p p2 : Pos} {x : Str} {q : Pos} (hx : Expr.Name x q ∈ ts) (hk : env.kindOf x ≠ some .local) : swappedStores [.Tuple ts k p] (.Tuple es k2 p2) env = pure none := by
  unfold swappedStores
  refine ite_both (ite_both (if_pos ?_))
  refine (Bool.or_eq_true _ _).mpr (.inl (bne_iff_ne.mpr (Nat.ne_of_lt (filterMap_lt hx (if_neg fun e => hk ?_)))))
  exact eq_of_beq (two e).1
theorem swapped_some {ts es : List Expr} {k k2 : Nat} {p p2 : Pos} {l : List Str} (hf : (ts.filterMap fun | .Name id pos => if env.kindOf id == some .local && pos.line == (ts.head?.map (·.pos.line)).getD 0 then some id else none | _ => none) = l)
    (hl : l.length = ts.length) (hn : l.Nodup) (h23 : (ts.length == 2 || ts.length == 3) = true) (hes : es.length = ts.length) (hst : (es.any fun | .Starred .. => true | _ => false) = false) (hk : env.scope.kind = .function)
    (h1 : es.all (foldedForSure 8) = false) (h2 : es.all (constantsAlone 8) = false) : swappedStores [.Tuple ts k p] (.Tuple es k2 p2) env = pure (some l) := by
  unfold swappedStores
  refine (if_neg ?_).trans ?_
  · rw [h23, hes, bne_self_eq_false, show env.blockKind = .function by simp [Env.blockKind, hk, ScopeKind.isAnnotationScope]]; exact Bool.noConfusion
  refine (if_neg ?_).trans ?_
  · exact fun e => Bool.noConfusion (hst.symm.trans e)
  refine (if_neg ?_).trans ?_
  · refine (congrArg (fun (N : List Str) => ¬ (N.length != ts.length || N.eraseDups.length != N.length) = true) hf).mpr ?_
    rw [eraseDups_nodup hn, hl, bne_self_eq_false]; exact Bool.noConfusion
  rw [h1, h2]
  exact congrArg (fun N => pure (some N)) hf

theorem Sl2.sfresh {Z : Addr → Prop} {ss : List (Mode × PV)} {cs : List Value} {D : List Addr} (g : Sl2 prog w h₀ h pub Z ss cs D) : ∀ a ∈ D, h₀.get? a = none := by
  induction g with
  | nil => intro a ha; cases ha
  | pub _ _ ih => exact ih
  | own _ _ hn _ _ ih =>
    intro a ha
    rcases List.mem_cons.mp ha with rfl | ha
    · exact hn
    · exact ih a ha
theorem SlotsGot.len {pub : Addr → Prop} {ss : List (Mode × PV)} {cs : List Value} {D : List Addr} (g : SlotsGot prog w h₀ h pub ss cs D) : ss.length = cs.length := by
  induction g with
  | nil => rfl
  | pub _ _ ih => simp [ih]
  | own _ _ _ _ _ ih => simp [ih]

theorem s_tuple (ih : Snd prog w T hb n) (rm : Room A n) {ts es : List Expr} {k k2 : Nat} {p p2 pos : Pos} {sw : Bool × List Str} {ss : List (Mode × PV)} {vars' : Vars} (F : Frame prog w hb sc env pb nb lent vars val s.heap)
    (h1 : swapNames sc ts es = some sw) (h2 : xSlots T n sc vars es = some ss) (h3 : setBoth sw ss vars = some vars') (E : Value → Shared → Prop) (Q : Flow → Shared → Prop)
    (q : ∀ f s', After prog w hb sc env pb nb lent (Wr sc env vars val) s (.next vars') f s' → Q f s') : wpAny (model prog w) A (exec (.Assign [.Tuple ts k p] (.Tuple es k2 p2) pos) env) Q E s := by
  obtain ⟨nostar, hsl⟩ := slots_nostar h2
  unfold swapNames at h1
  split at h1
  · cases h1
  rename_i hlen
  simp only [Bool.not_eq_true', Bool.not_eq_false, Bool.and_eq_true, beq_iff_eq, decide_eq_true_eq, Bool.not_eq_eq_eq_not, Bool.not_true] at hlen
  have hlen' : es.length = ts.length ∧ ts.length ≤ 5 := by simpa using hlen
  -- the end of both roads
  have fin : ∀ (xs : List Str) (trees : List (Value → Sem Unit)) (ss2 : List (Mode × PV)) (cs2 : List Value) (D : List Addr) (h1 : Heap) (tk1 : Nat), s.heap.StaysIn h1 → setAll xs ss2 vars = some vars' → (∀ x ∈ xs, ownK sc x = true) → StoresAll prog w A env trees xs →
      Sl2 prog w s.heap h1 (fun a => (pb a ∧ nb a) ∧ ¬ Wr sc env vars val a) (fun b => b ∈ D) ss2 cs2 D → D.Nodup → (∀ a ∈ D, h1.get? a ≠ none) → wpAny (model prog w) A (assignInOrder trees cs2) (fun _ => Q .next) E { s with heap := h1, toks := tk1 } := by
    intro xs trees ss2 cs2 D h1 tk1 st hset hown hts g nd hD
    have fr := fun a (ha : a ∈ D) => g.sfresh a ha
    refine store_all (W₀ := Wr sc env vars val) (Z := fun b => b ∈ D) (fun a ha => ⟨none_of_stays F.base (fr a ha), F.pbf a (fr a ha), F.nbf a (fr a ha)⟩) xs trees ss2 cs2 D vars vars' val { s with heap := h1, toks := tk1 } E _ hset hown hts
      (F.narrow st (fun a x y => ⟨x, fun m => y (fr a m)⟩) fun a e => ⟨F.nbf a (none_of_stays st e), fun m => hD a m e⟩) g nd (fun a x => .inl x) fun h2 tk2 val' F2 k2 ex2 hw2 => ?_
    refine q _ _ ⟨h2, tk2, rfl, rfl, val', F2, ⟨fun a o e c => k2 a o (st a o e) (c.imp (fun c x => x.elim c fun m => by rw [fr a m] at e; cases e) id), fun a e => (ex2 a e).elim (fun z => .inl (none_of_stays st z)) fun x => x.elim .inr fun m => .inl (fr a m), fun a x => (hw2 a x).imp id fun m => fr a m⟩⟩
  split at h1
  · rename_i l hl
    obtain ⟨i1, i2, i3, i4, i5⟩ := tsNames_mem (prog := prog) (w := w) (A := A) (env := env) hl
    split at h1
    · rename_i hany
      split at h1
      · rename_i hall
        cases h1
        simp only [setBoth, Bool.false_eq_true, if_false] at h3
        obtain ⟨x, hxl, hxc⟩ := List.any_eq_true.mp hany
        obtain ⟨px, hpx⟩ := i5 x hxl
        have hxk : env.kindOf x ≠ some .local := by
          unfold isCellK at hxc
          split at hxc
          · rename_i e; rw [kindOf_kind F.kok e (by decide)]; decide
          · cases hxc
        refine Assign_Tuple (wpAny_Tuple (ih.slots A sc env vars _ s es ss rm h2 F.reads F.fresh p2 E _ fun cs h1 tk1 D st1 g1 hD => ⟨?_, ?_⟩)) rfl (swapped_none hpx hxk)
        · have := g1.len; rw [← this, hsl, sizeLine_eq]; (first | lia | omega)
        · obtain ⟨g, nd⟩ := g1.sl2 (pl := fun a => (pb a ∧ nb a) ∧ ¬ Wr sc env vars val a) [] fun b o => ⟨o, by simp⟩
          have g := g.congr (Z' := fun b => b ∈ D) (fun a => by simp)
          have hsz : (assignEach ts env).length = cs.toArray.size := by rw [i3, List.size_toArray, ← g1.len, hsl, hlen'.1]
          have stp := stays_push h1 { cls := .type "tuple", data := .seq cs.toArray }
          refine wpAny_assign_Tuple rm.h ⟨_, Heap.get?_push_size _ rfl, rfl, 0, rfl⟩ hsz i4 fun h2 x2 => ?_
          have st2 := stays_trans stp (stays_ext x2)
          exact fin l _ ss cs D h2 tk1 (stays_trans st1 st2) h3 (fun y hy => List.all_eq_true.mp hall y hy) i2 (g.kp (V := fun _ => False) (Kp.of_stays st2) (fun _ _ _ => id) fun _ _ => id) nd fun a ha e => hD a ha (none_of_stays st2 e)
      · cases h1
    · split at h1
      · rename_i hc
        simp only [Bool.and_eq_true, Bool.not_eq_true'] at hc
        split at h1
        · rename_i l' hl'
          split at h1
          · rename_i hap
            cases h1
            simp only [setBoth, if_true] at h3
            obtain ⟨j1, j2, j3⟩ := rowNames_filter (env := env) F.kok hl'
            refine Assign_Tuple_swapped (wpAny_Tuple (ih.slots A sc env vars _ s es ss rm h2 F.reads F.fresh p2 E _ fun cs h1 tk1 D st1 g1 hD => ⟨?_, ?_⟩)) rfl (swapped_some j1 j2 (allApart_nodup hap) hc.1.1 hlen'.1 nostar F.kind hc.1.2 hc.2)
            · have := g1.len; rw [← this, hsl, sizeLine_eq]; (first | lia | omega)
            · obtain ⟨g, nd⟩ := g1.sl2 (pl := fun a => (pb a ∧ nb a) ∧ ¬ Wr sc env vars val a) [] fun b o => ⟨o, by simp⟩
              have g := (g.congr (Z' := fun b => b ∈ D.reverse) (fun a => by simp)).reverse
              have hsz : l'.length = cs.toArray.size := by rw [j2, List.size_toArray, ← g1.len, hsl, hlen'.1]
              have stp := stays_push h1 { cls := .type "tuple", data := .seq cs.toArray }
              rw [hsz]
              refine wpAny_unpackItems_tuple rm.h ⟨_, Heap.get?_push_size _ rfl, rfl, 0, rfl⟩ fun h2 x2 => ?_
              have st2 := stays_trans stp (stays_ext x2)
              have hts : ∀ m : List Str, StoresAll prog w A env (m.map fun n => bindName env n) m := fun m => by
                induction m with
                | nil => exact .nil
                | cons y m ihm => exact .cons (fun v s E Q q => wpAny_bindName q) ihm
              exact fin l'.reverse _ ss.reverse cs.reverse D.reverse h2 tk1 (stays_trans st1 st2) h3 (fun y hy => by unfold ownK; rw [j3 y (List.mem_reverse.mp hy)]) (hts _)
                (g.kp (V := fun _ => False) (Kp.of_stays st2) (fun _ _ _ => id) fun _ _ => id) (by unfold List.Nodup; rw [List.pairwise_reverse]; exact nd.imp Ne.symm) fun a ha e => hD a (List.mem_reverse.mp ha) (none_of_stays st2 e)
          · cases h1
        · cases h1
      · cases h1
  · cases h1

theorem aug_some {op : Operator} {a b v : PV} (e : evalAug op a b = some v) : ∃ i j, a = .int i ∧ b = .int j ∧ op = .Add ∧ v = .int (i + j) := by
  cases op with
  | Add =>
    obtain ⟨i, hi, e⟩ := bnd (show (intP a).bind (fun i => (intP b).bind fun j => some (PV.int (i + j))) = some v from e)
    obtain ⟨j, hj, e⟩ := bnd e
    exact ⟨i, j, intP_eq hi, intP_eq hj, rfl, (Option.some.inj e).symm⟩
  | _ => exact noS e
theorem s_aug (ih : Snd prog w T hb n) (rm : Room A n) {x : Str} {op : Operator} {e : Expr} {px pos : Pos} {o a : Bool × PV} {v : PV} (F : Frame prog w hb sc env pb nb lent vars val s.heap)
    (hx : ownK sc x = true) (h1 : xE T n sc vars (.Name x px) = some o) (h2 : xE T n sc vars e = some a) (h3 : evalAug op o.2 a.2 = some v) (E : Value → Shared → Prop) (Q : Flow → Shared → Prop)
    (q : ∀ f s', After prog w hb sc env pb nb lent (Wr sc env vars val) s (.next (setV x (.P, v) vars)) f s' → Q f s') : wpAny (model prog w) A (exec (.AugAssign (.Name x px) op e pos) env) Q E s := by
  cases n with
  | zero => exact noS h1
  | succ n =>
  obtain ⟨ho, h1⟩ := unlessIf (show (bif oddName x then none else readP (kindIn x sc.names) (look x vars)) = some o from h1)
  obtain ⟨md, hl, hk, hp⟩ := readP_kind h1
  obtain ⟨hd, hc⟩ := oddName_no (by rw [ho]; exact nofun)
  obtain ⟨cv, r1, _, ld⟩ := F.reads.load (M := model prog w) (A := A) hl hk hc
  obtain ⟨i, j, e1, e2, rfl, h5⟩ := aug_some h3
  refine wpAny_AugAssign_Name (ld E _ ?_)
  refine ih.e A sc env vars _ s e a.1 a.2 rm h2 F.reads F.fresh E _ fun c1 h1' tk1 st1 r2 => ?_
  rw [e1] at r1
  have r2' := r2 _ .T
  rw [e2] at r2'
  obtain ⟨t, rfl⟩ := r1.int_inv; obtain ⟨u, rfl⟩ := r2'.int_inv
  subst h5
  refine PySem.AutoIntOps.iadd_0 ?_
  have F2 := F.stays st1
  exact F2.storeP (s := { s with heap := h1', toks := tk1 + 1 }) (pi := fun _ => False) hx (.int _ _) (fun _ f => f.elim) fun h3 tk3 F3 adv3 _ => q _ _ ⟨h3, tk3, rfl, rfl, _, F3, (Adv.stays st1).trans adv3⟩
end
end Mine

namespace Mine
open PySem PySem.Calls PyProof.Rows PySem.W PySem.SeqAt

section
variable {prog : Program} {w : World} {T : Tab} {hb h h₀ h' : Heap} {n : Nat} {A : Around} {sc : Scope} {env : Env} {vars : Vars} {pub pb nb : Addr → Prop} {lent : Addr} {val : Str → Option Value} {s : Shared} {p : Bool} {v : PV}

theorem cellsFrom_append : ∀ (names : List (Str × NameKind)) (n : Nat) (a b : List (Str × Addr)), cellsFrom n names (a ++ b) = cellsFrom n names a ++ b
  | [], _, _, _ => rfl
  | (x, k) :: r, n, a, b => by
    unfold cellsFrom
    split
    · exact cellsFrom_append r (n + 1) ((x, n) :: a) b
    · exact cellsFrom_append r n a b
theorem cellsFrom_kind : ∀ (names : List (Str × NameKind)) (n : Nat) (acc : List (Str × Addr)) (x : Str) (c : Addr), (x, c) ∈ cellsFrom n names acc → (x, c) ∈ acc ∨ (x, NameKind.cell) ∈ names
  | [], _, _, _, _, h => .inl h
  | (y, k) :: r, n, acc, x, c, h => by
    unfold cellsFrom at h
    split at h
    · rename_i hk
      have hk' : k = .cell := by simpa using hk
      rcases cellsFrom_kind r (n + 1) _ x c h with h | h
      · rcases List.mem_cons.mp h with e | h
        · cases e; subst hk'; exact .inr (.head _)
        · exact .inl h
      · exact .inr (.tail _ h)
    · exact (cellsFrom_kind r n acc x c h).imp id (.tail _)

theorem wpAny_newFunctionEnv_comp {M : Model} {E : Value → Shared → Prop} {scope : Scope} {globals : Addr} {closure : List (Str × Addr)} {qual : Str} {outer : Env} {Q : Env → Shared → Prop}
    (hQ : Q { scope, locals := s.heap.objs.size, globals, cells := cellsFrom (s.heap.objs.size + 1) scope.names closure, qual, func := none, code := outer.code, frame := outer.frame, builtins := outer.builtins }
      { s with heap := pushCells (s.heap.push { cls := .type "dict", data := .dict #[] }) scope.names }) :
    wpAny M A (newFunctionEnv scope globals closure [] qual none .none (some outer)) Q E s := by
  simp only [newFunctionEnv, Option.isSome_some, if_true]
  refine wpAny_bind (wpAny_alloc ?_)
  refine wpAny_bind (wpAny_layCells _ (fun name kind cells => by cases hkc : kind == NameKind.cell <;> simp [hkc]) _ _ _ _ ?_)
  rw [show ({ s with heap := s.heap.push { cls := .type "dict", data := .dict #[] } } : Shared).heap.objs.size = s.heap.objs.size + 1 from Heap.size_push ..]
  refine wpAny_bind ?_
  rw [List.forIn_nil]
  exact wpAny_pure (wpAny_pure hQ)

noncomputable def closeAcc (env : Env) : List (Str × NameKind) → List (Str × Addr) → List (Str × Addr)
  | [], acc => acc
  | (x, k) :: r, acc => if k == .free then closeAcc env r (match env.cells.lookup x with | some c => (x, c) :: acc | none => acc) else closeAcc env r acc
theorem closureFor_pure {scope : Scope} (hc : ∀ x, (x, NameKind.free) ∈ scope.names → ∃ c, env.cells.lookup x = some c) : closureFor scope env = pure (closeAcc env scope.names []) := by
  have key : ∀ (l : List (Str × NameKind)) (acc : List (Str × Addr)), (∀ x, (x, NameKind.free) ∈ l → ∃ c, env.cells.lookup x = some c) →
      (forIn l acc fun (x : Str × NameKind) cs => (match x with | (name, kind) => if kind == NameKind.free then do let c ← cellOf env name; pure (ForInStep.yield ((name, c) :: cs)) else pure (ForInStep.yield cs) : Sem (ForInStep (List (Str × Addr))))) = pure (closeAcc env l acc) := by
    intro l
    induction l with
    | nil => intro acc _; rfl
    | cons a r ih =>
      intro acc hl
      obtain ⟨x, k⟩ := a
      rw [List.forIn_cons]
      unfold closeAcc
      by_cases hk : (k == NameKind.free) = true
      · have hk' : k = .free := by simpa using hk
        subst hk'
        obtain ⟨c, hc'⟩ := hl x (.head _)
        simp only [beq_self_eq_true, if_true, cellOf, hc', pure_bind]
        exact ih _ fun y hy => hl y (.tail _ hy)
      · simp only [hk]
        rw [if_neg (by simp), if_neg (by simp), pure_bind]
        exact ih _ fun y hy => hl y (.tail _ hy)
  have e : closureFor scope env = ((forIn scope.names [] fun (x : Str × NameKind) cs => (match x with | (name, kind) => if kind == NameKind.free then do let c ← cellOf env name; pure (ForInStep.yield ((name, c) :: cs)) else pure (ForInStep.yield cs) : Sem (ForInStep (List (Str × Addr))))) >>= fun r => pure r) := by
    unfold closureFor
    rfl
  rw [e, key scope.names [] hc, pure_bind]
theorem closeAcc_mem : ∀ (l : List (Str × NameKind)) (acc : List (Str × Addr)) (x : Str) (c : Addr), (x, c) ∈ closeAcc env l acc → (x, c) ∈ acc ∨ (env.cells.lookup x = some c ∧ (x, NameKind.free) ∈ l)
  | [], _, _, _, h => .inl h
  | (y, k) :: r, acc, x, c, h => by
    unfold closeAcc at h
    split at h
    · rename_i hk
      have hk' : k = .free := by simpa using hk
      rcases closeAcc_mem r _ x c h with h | h
      · split at h
        · rename_i c' hc'
          rcases List.mem_cons.mp h with e | h
          · cases e; subst hk'; exact .inr ⟨hc', .head _⟩
          · exact .inl h
        · exact .inl h
      · exact .inr ⟨h.1, .tail _ h.2⟩
    · exact (closeAcc_mem r acc x c h).imp id fun h => ⟨h.1, .tail _ h.2⟩
theorem closeAcc_keep : ∀ (l : List (Str × NameKind)) (acc : List (Str × Addr)) (x : Str) (c : Addr), (x, c) ∈ acc → (x, c) ∈ closeAcc env l acc
  | [], _, _, _, h => h
  | (y, k) :: r, acc, x, c, h => by
    unfold closeAcc
    split
    · refine closeAcc_keep r _ x c ?_
      split
      · exact .tail _ h
      · exact h
    · exact closeAcc_keep r acc x c h
theorem closeAcc_has : ∀ (l : List (Str × NameKind)) (acc : List (Str × Addr)) (x : Str) (c : Addr), (x, NameKind.free) ∈ l → env.cells.lookup x = some c → (x, c) ∈ closeAcc env l acc
  | (y, k) :: r, acc, x, c, h, hc => by
    unfold closeAcc
    rcases List.mem_cons.mp h with e | h
    · cases e
      simp only [beq_self_eq_true, if_true, hc]
      exact closeAcc_keep r _ _ c (.head _)
    · split
      · exact closeAcc_has r _ x c h hc
      · exact closeAcc_has r acc x c h hc
theorem lookup_of_mem {l : List (Str × Addr)} {x : Str} {c : Addr} (h : (x, c) ∈ l) (hu : ∀ c', (x, c') ∈ l → c' = c) : l.lookup x = some c := by
  cases q : l.lookup x with
  | some c' => rw [hu c' (mem_of_lookup q)]
  | none =>
    exfalso
    induction l with
    | nil => cases h
    | cons a r ih =>
      rw [List.lookup_cons] at q
      rcases List.mem_cons.mp h with e | h
      · subst e; simp at q
      · split at q
        · cases q
        · exact ih h (fun c' h' => hu c' (.tail _ h')) q

theorem lookup_find {α : Type} (x : Str) : ∀ l : List (Str × α), l.lookup x = (l.find? fun a => x == a.1).map (·.2)
  | [] => rfl
  | (y, a) :: r => by
    rw [List.lookup_cons, List.find?_cons]
    by_cases h : (x == y) = true
    · simp [h]
    · simp only [Bool.not_eq_true] at h; simp [h, lookup_find x r]
theorem lookup_map {α : Type} (x : Str) (f : Str × α → Str × α) (hf : ∀ a, (f a).1 = a.1) : ∀ l : List (Str × α), (l.map f).lookup x = (l.find? fun a => x == a.1).map fun a => (f a).2
  | [] => rfl
  | a :: r => by
    rw [List.map_cons, List.find?_cons]
    have : f a = ((f a).1, (f a).2) := rfl
    rw [this, hf, List.lookup_cons]
    by_cases h : (x == a.1) = true
    · simp [h]
    · simp only [Bool.not_eq_true] at h; simp [h, lookup_map x f hf r]
theorem lookup_relabel {names : List (Str × NameKind)} {x : Str} {k : NameKind} (h : names.lookup x = some k) :
    (names.map fun (n, k) => if (k == NameKind.free && env.scope.kind == .function && env.kindOf n == some .cell) then (n, NameKind.cell) else (n, k)).lookup x = some k ∨ (k = .free ∧
      (names.map fun (n, k) => if (k == NameKind.free && env.scope.kind == .function && env.kindOf n == some .cell) then (n, NameKind.cell) else (n, k)).lookup x = some .cell) := by
  rw [lookup_map x _ (fun a => by dsimp only; split <;> rfl)]
  rw [lookup_find] at h
  cases q : names.find? fun a => x == a.1 with
  | none => rw [q] at h; cases h
  | some a =>
    obtain ⟨y, k'⟩ := a
    rw [q] at h; cases h
    simp only [Option.map_some]
    split
    · rename_i hc
      simp only [Bool.and_eq_true] at hc
      exact .inr ⟨by simpa using hc.1.1, rfl⟩
    · exact .inl rfl

theorem look_within {x : Str} {names : List (Str × NameKind)} : ∀ {vars : Vars}, look x (within names vars) = if kindIn x names = some .free then (look x vars).map fun sl => (if ownM sl.1 then .B else sl.1, sl.2) else none
  | [] => by unfold within look; simp
  | (y, md, u) :: r => by
    have ih := @look_within x names r
    unfold within
    split
    · rename_i hk
      simp only [look]
      by_cases hyx : y = x
      · subst hyx; simp [strEq_self, hk]
      · rw [strEq_ne hyx]; simpa using ih
    · rename_i hk
      rw [ih]
      by_cases hyx : y = x
      · subst hyx
        rw [if_neg hk, if_neg hk]
      · simp only [look, strEq_ne hyx]
end
end Mine

namespace Mine
open PySem PySem.Calls PyProof.Rows PySem.W PySem.SeqAt

section
variable {prog : Program} {w : World} {T : Tab} {hb h h₀ h' : Heap} {n : Nat} {A : Around} {sc : Scope} {env : Env} {vars : Vars} {pub : Pubs} {pb nb : Addr → Prop} {lent : Addr} {val : Str → Option Value} {s : Shared} {p : Bool} {v : PV}

theorem nodup_key {α : Type} {l : List (Str × α)} (hn : (l.map (·.1)).Nodup) {x : Str} {a b : α} (h1 : (x, a) ∈ l) (h2 : (x, b) ∈ l) : a = b := by
  induction l with
  | nil => cases h1
  | cons y r ih =>
    simp only [List.map_cons, List.nodup_cons] at hn
    rcases List.mem_cons.mp h1 with e | k1 <;> rcases List.mem_cons.mp h2 with e' | k2
    · rw [← e] at e'; exact (Prod.mk.inj e').2.symm
    · subst e; exact (hn.1 (List.mem_map.mpr ⟨_, k2, rfl⟩)).elim
    · subst e'; exact (hn.1 (List.mem_map.mpr ⟨_, k1, rfl⟩)).elim
    · exact ih hn.2 k1 k2
theorem lookup_mem' {α : Type} {l : List (Str × α)} (hn : (l.map (·.1)).Nodup) {x : Str} {a : α} (h : (x, a) ∈ l) : l.lookup x = some a := by
  cases q : l.lookup x with
  | some b => rw [nodup_key hn h (mem_of_lookup q)]
  | none =>
    exfalso
    induction l with
    | nil => cases h
    | cons y r ih =>
      rw [List.lookup_cons] at q
      rcases List.mem_cons.mp h with e | h
      · subst e; simp at q
      · split at q
        · cases q
        · simp only [List.map_cons, List.nodup_cons] at hn
          exact ih hn.2 h q

theorem compOk_parts {scope : Scope} (h : compOk sc scope = true) : scope.kind = .function ∧ (scope.names.map (·.1)).Nodup ∧ ∀ x, (x, NameKind.free) ∈ scope.names → x ≠ "__classdict__" ∧ (kindIn x sc.names = some .cell ∨ kindIn x sc.names = some .free) := by
  unfold compOk at h
  simp only [Bool.and_eq_true] at h
  refine ⟨by simpa using h.1.1, allApart_nodup h.1.2, fun x hx => ?_⟩
  have := List.all_eq_true.mp h.2 _ hx
  simp only [Bool.and_eq_true, Bool.not_eq_true'] at this
  refine ⟨fun e => ?_, ?_⟩
  · rw [strEq_iff.mpr e] at this; cases this.1
  · have t := this.2
    split at t
    · rename_i e; exact .inl e
    · rename_i e; exact .inr e
    · cases t

noncomputable def compEnv' (scope : Scope) (env : Env) (L : Addr) : Env :=
  { scope := relabel scope env, locals := L, globals := env.globals, cells := cellsFrom (L + 1) scope.names (closeAcc env scope.names []), qual := env.qual, func := none, code := env.code, frame := env.frame, builtins := env.builtins }

theorem comp_frame {scope : Scope} {h₃ : Heap} {D lent : Addr} (R : Reads prog w hb sc env pub vars h) (F : ∀ b, h.get? b = none → pub.p b) (st : h.StaysIn h₃) (hD : h.get? D = none) (hD3 : h₃.get? D ≠ none) (hok : compOk sc scope = true) :
    (∃ val, Frame prog w hb scope (compEnv' scope env h₃.objs.size) pub.p (fun a => a ≠ D) lent (within scope.names vars) val (pushCells (h₃.push { cls := .type "dict", data := .dict #[] }) scope.names)) ∧ NoOwn (within scope.names vars) ∧
    h₃.StaysIn (pushCells (h₃.push { cls := .type "dict", data := .dict #[] }) scope.names) ∧ ∀ a, Wc scope (compEnv' scope env h₃.objs.size) a → h₃.get? a = none := by
  obtain ⟨hkind, hnd, hfree⟩ := compOk_parts hok
  have st4 : h₃.StaysIn (pushCells (h₃.push { cls := .type "dict", data := .dict #[] }) scope.names) := fun b o e => pushCells_keeps _ _ b o (Heap.get?_push_of_some _ e)
  have ok := cellsFrom_ok scope.names (h₃.push { cls := .type "dict", data := .dict #[] }) (h₃.objs.size + 1) [] ⟨fun _ _ hm => (nomatch hm), List.Pairwise.nil⟩ (by rw [Heap.size_push]; exact Nat.le_refl _)
  rw [Heap.size_push] at ok
  have hcells : (compEnv' scope env h₃.objs.size).cells = cellsFrom (h₃.objs.size + 1) scope.names [] ++ closeAcc env scope.names [] := by
    show cellsFrom (h₃.objs.size + 1) scope.names ([] ++ closeAcc env scope.names []) = _
    rw [cellsFrom_append]
  have mem_kind : ∀ {x k}, kindIn x scope.names = some k → (x, k) ∈ scope.names := fun e => mem_of_lookup (by rw [← kindIn_lookup]; exact e)
  have own : ∀ x, kindIn x scope.names = some .cell → ∃ c, (compEnv' scope env h₃.objs.size).cells.lookup x = some c ∧ (x, c) ∈ cellsFrom (h₃.objs.size + 1) scope.names [] := fun x hx => by
    have hs := cellsFrom_some (x := x) scope.names (h₃.objs.size + 1) [] (.inl (by rw [← kindIn_lookup]; exact hx))
    obtain ⟨c, hc⟩ := Option.isSome_iff_exists.mp hs
    exact ⟨c, by rw [hcells, List.lookup_append, hc]; rfl, mem_of_lookup hc⟩
  have fre : ∀ x, kindIn x scope.names = some .free → ∃ c, (compEnv' scope env h₃.objs.size).cells.lookup x = some c ∧ env.cells.lookup x = some c ∧ ∃ u, h.IsCell c u := fun x hx => by
    have hm := mem_kind hx
    obtain ⟨c, u, hc, hi⟩ := R.cel x (hfree x hm).2
    refine ⟨c, ?_, hc, u, hi⟩
    have hno : (cellsFrom (h₃.objs.size + 1) scope.names []).lookup x = none := by
      cases q : (cellsFrom (h₃.objs.size + 1) scope.names []).lookup x with
      | none => rfl
      | some c' =>
        rcases cellsFrom_kind _ _ _ _ _ (mem_of_lookup q) with e | e
        · cases e
        · have := nodup_key hnd hm e; cases this
    rw [hcells, List.lookup_append, hno]
    show Option.or none _ = _
    rw [Option.none_or]
    refine lookup_of_mem (closeAcc_has _ _ _ _ hm hc) fun c' h' => ?_
    rcases closeAcc_mem _ _ _ _ h' with e | e
    · cases e
    · have := e.1; rw [hc] at this; exact (Option.some.inj this).symm
  have hfr : ∀ a, h₃.objs.size ≤ a → h₃.get? a = none := fun a ha => Heap.get?_none_of_le ha
  have wcf : ∀ a, Wc scope (compEnv' scope env h₃.objs.size) a → h₃.get? a = none := by
    rintro a (rfl | ⟨x, hx, hc⟩)
    · exact hfr _ (Nat.le_refl _)
    · obtain ⟨c, h1, h2⟩ := own x hx
      rw [hc] at h1; cases h1
      exact hfr _ (Nat.le_of_succ_le (ok.empty x _ h2).2)
  have noOwn : NoOwn (within scope.names vars) := fun x md v hx => by
    rw [look_within] at hx
    split at hx
    · cases q : look x vars with
      | none => rw [q] at hx; cases hx
      | some sl =>
        rw [q] at hx; cases hx
        split
        · rfl
        · rename_i e; simpa using e
    · cases hx
  have wrf : ∀ val a, Wr scope (compEnv' scope env h₃.objs.size) (within scope.names vars) val a → h₃.get? a = none := by
    rintro val a (e | e | ⟨x, md, v, hx, hm, _⟩)
    · exact wcf a (.inl e)
    · exact wcf a (.inr e)
    · rw [noOwn x md v hx] at hm; cases hm
  have wih : ∀ {x md v}, look x (within scope.names vars) = some (md, v) → kindIn x scope.names = some .free ∧ ∃ md', look x vars = some (md', v) ∧ (md = .P → md' = .P) ∧ (md = .P ∨ md = .B) := fun {x md v} hx => by
    rw [look_within] at hx
    split at hx
    · rename_i hk
      cases q : look x vars with
      | none => rw [q] at hx; cases hx
      | some sl =>
        obtain ⟨md', u⟩ := sl
        rw [q] at hx; cases hx
        refine ⟨hk, md', rfl, fun e => ?_, ?_⟩
        · dsimp only at e ⊢
          split at e
          · cases e
          · exact e
        · dsimp only
          cases md' <;> simp [ownM]
    · cases hx
  obtain ⟨m, hn, hvars⟩ := R.vars
  refine ⟨⟨fun x => (env.cells.lookup x).bind fun c => match h.get? c with | some o => (match o.data with | .cell u => u | _ => none) | none => none, ?_⟩, noOwn, st4, wcf⟩
  have valOf : ∀ {x : Str} {c : Addr} {u : Option Value}, env.cells.lookup x = some c → h.IsCell c u → ((env.cells.lookup x).bind fun c => match h.get? c with | some o => (match o.data with | .cell u => u | _ => none) | none => none) = u := fun {x c u} h1 h2 => by
    obtain ⟨o, ho, hd⟩ := h2
    rw [h1]; simp [ho, hd]
  exact {
    base := stays_trans (stays_trans R.base st) st4
    glob := R.glob
    blt := R.blt
    kind := hkind
    kok := fun x k hk => by
      rw [kindIn_lookup] at hk
      exact lookup_relabel hk
    ns := ⟨_, (Heap.Ns.new h₃ (.type "dict")).keeps (pushCells_keeps _ _), fun x cv hx hl _ => by
      cases q : look x (within scope.names vars) with
      | none => rw [q] at hl; cases hl
      | some sl =>
        obtain ⟨md, v⟩ := sl
        have := (wih q).1
        rw [hx] at this; cases this⟩
    cel := fun x hx => by
      rcases hx with hx | hx
      · obtain ⟨c, h1, h2⟩ := own x hx
        have hc := ok.empty x c h2
        refine ⟨c, none, h1, hc.1, ?_, fun cv hl _ => ?_⟩
        · rintro rfl; exact hD3 (hfr _ (Nat.le_of_succ_le hc.2))
        · cases q : look x (within scope.names vars) with
          | none => rw [q] at hl; cases hl
          | some sl =>
            obtain ⟨md, v⟩ := sl
            have := (wih q).1
            rw [hx] at this; cases this
      · obtain ⟨c, h1, h2, u, h3⟩ := fre x hx
        refine ⟨c, u, h1, (h3.keeps st).keeps st4, ?_, fun cv _ hv => ?_⟩
        · rintro rfl; exact (isCell_mut h3).some hD
        · rw [valOf h2 h3] at hv; exact hv
    apart := fun x y c hx hy h1 h2 => by
      obtain ⟨c', g1, g2⟩ := own x hx
      rw [h1] at g1; cases g1
      rcases hy with hy | hy
      · obtain ⟨c'', k1, k2⟩ := own y hy
        rw [h2] at k1; cases k1
        exact name_of_addr ok.apart g2 k2
      · obtain ⟨c'', k1, _, u, k2⟩ := fre y hy
        rw [h2] at k1; cases k1
        exact absurd (hfr _ (Nat.le_of_succ_le (ok.empty x c g2).2)) (isCell_mut (k2.keeps st)).some
    slots := fun x md v hx => by
      obtain ⟨hk, md', hl, hp, hmd⟩ := wih hx
      obtain ⟨cv, h1, h2, _, h4⟩ := hvars x md' v hl
      obtain ⟨c, h5, h6⟩ := h4 (hfree x (mem_kind hk)).2
      refine ⟨cv, valOf h5 h6, ?_⟩
      have here : ∀ a, h.get? a ≠ none → a ≠ D ∧ ¬ Wr scope (compEnv' scope env h₃.objs.size) (within scope.names vars) (fun x => (env.cells.lookup x).bind fun c => match h.get? c with | some o => (match o.data with | .cell u => u | _ => none) | none => none) a := fun a e => ⟨fun q => e (q ▸ hD), fun q => e (none_of_stays st (wrf _ a q))⟩
      rcases hmd with rfl | rfl
      · exact (h2 (hp rfl)).exist.stays (stays_trans st st4) fun a o => ⟨⟨o.1, (here a o.2).1⟩, (here a o.2).2⟩
      · exact h1.exist.stays (stays_trans st st4) fun a o => here a o.2
    own1 := fun x y mx vx my vy a hx hm => by rw [noOwn x mx vx hx] at hm; cases hm
    sepL := fun x md v hx hm => by rw [noOwn x md v hx] at hm; cases hm
    nbL := fun e => hD3 (hfr _ (by rw [← e]; exact Nat.le_refl _))
    old := fun a e => none_of_stays R.base (none_of_stays st (wrf _ a e))
    pbf := fun a e => F a (none_of_stays (stays_trans st st4) e)
    nbf := fun a e q => hD3 (none_of_stays st4 (q ▸ e)) }
end
end Mine

namespace Mine
open PySem PySem.Calls PyProof.Rows PySem.W PySem.SeqAt

section
variable {prog : Program} {w : World} {T : Tab} {hb h h₀ h' : Heap} {n : Nat} {A : Around} {sc : Scope} {env : Env} {vars : Vars} {pub : Pubs} {pb nb : Addr → Prop} {lent : Addr} {val : Str → Option Value} {s : Shared} {p : Bool} {v : PV}

theorem Frame.wc_mut (F : Frame prog w hb sc env pb nb lent vars val h) {a : Addr} (x : Wc sc env a) : Mut h a := F.wr_mut (.of_wc x)
theorem NoOwn.wr (no : NoOwn vars) {a : Addr} (x : Wr sc env vars val a) : Wc sc env a := by
  rcases x with e | e | ⟨x, md, v, hx, hm, _⟩
  · exact .inl e
  · exact .inr e
  · rw [no x md v hx] at hm; cases hm
theorem list_notTup {a : Addr} {ys : Array Value} (hl : h.PlainList a ys) : ∀ o, h.get? a = some o → ¬ isTupObj o := fun o e t => by
  obtain ⟨m, hl⟩ := hl
  rw [hl] at e; cases e
  have := t.1
  simp at this

theorem wpAny_noStart {gens : List Comprehension} {elt : Expr} {scope : Scope} {pos : Pos} {depth : Nat} {target iter : Expr} {ifs : List Expr} {it acc : Value} {R : Result → Shared → Prop} (hg : gens[depth]? = some ⟨target, iter, ifs, 0⟩)
    (h0 : codeAny (model prog w) A (.compLoop (.ListComp elt gens scope pos) depth it acc env) R s)
    (h : wpAny (model prog w) A (pyIter it) (fun it' s' => codeAny (model prog w) A (.compLoop (.ListComp elt gens scope pos) depth it' acc env) R s')
      (notedBy (model prog w) A env fun x s' => R (.error x) s') s) :
    codeAny (model prog w) A (.compStart (.ListComp elt gens scope pos) depth it acc env) R s := by
  refine codeAny_of_tree ?_
  show wpAny _ _ ((compStart (.ListComp elt gens scope pos) depth it acc env).onRaise (fun x => do noteFrame x env; standAt theWindowsPlace)) _ _ s
  refine wpAny_notedAt ?_
  unfold compStart
  have hcl : (clausesOf (.ListComp elt gens scope pos))[depth]? = some ⟨target, iter, ifs, 0⟩ := hg
  rw [hcl]
  show wpAny _ _ (ask >>= _) _ _ s
  refine wpAny_bind (wpAny_askSetting (wpAny_ite ?_))
  split
  · first
      | exact wpAny_bind (wpAny_pure (wpAny_pure (And.intro rfl h0)))
      | exact wpAny_pure (And.intro rfl h0)
  · refine wpAny_bind (wpAny_rule ?_)
    show wpAny _ _ (standAt iter.pos >>= _) _ _ s
    exact wpAny_bind (wpAny_standAt (wpAny_bind (wpAny_mono h (fun it' s' h' => wpAny_pure (And.intro rfl h')) fun _ _ x => x)))

theorem compTurn_at {elt : Expr} {gens : List Comprehension} {scope : Scope} {pos : Pos} {depth : Nat} {target iter : Expr} {ifs : List Expr} {it acc : Value} (hg : gens[depth]? = some ⟨target, iter, ifs, 0⟩) :
    compTurn (.ListComp elt gens scope pos) depth it acc env = (standAt iter.pos >>= fun _ => pyNext it >>= fun r => match r with
      | none => pure (.done .next)
      | some v => letOwnedTupleGo target it v >>= fun _ => assign target env v >>= fun _ =>
        (forIn ifs true fun c r => if r = true then do let ok ← isTrue c env (eval c env); pure (ForInStep.yield ok) else pure (ForInStep.yield r)) >>= fun ok =>
          if ok = true then emitTree (.ListComp elt gens scope pos) elt gens depth acc env (again (.compLoop (.ListComp elt gens scope pos) depth it acc env))
          else again (.compLoop (.ListComp elt gens scope pos) depth it acc env)) := by
  unfold compTurn emitTree
  simp only [hg, show ((0 : Int) != 0) = false from rfl, Bool.false_eq_true, if_false]
  rfl

theorem Grown.trans {D : Addr} {ys zs : Array Value} {W₀ W₁ : Addr → Prop} {out1 out2 : List PV} {vars2 : Vars} {h1 : Heap} {tk1 : Nat} {s' : Shared}
    (ra : VAll prog w h1 (fun a => (pb a ∧ nb a) ∧ ¬ Wc sc env a) out1 zs.toList) (kp : Kp W₀ s.heap h1) (ex : ∀ a, h1.get? a = none → s.heap.get? a = none ∨ W₀ a)
    (hW₁ : ∀ a, W₁ a → W₀ a) (hnot : ∀ a, Cont h1 a → (pb a ∧ nb a) ∧ ¬ Wc sc env a → ¬ W₁ a)
    (g : Grown prog w hb sc env pb nb lent D (ys ++ zs) W₁ { s with heap := h1, toks := tk1 } out2 vars2 s') : Grown prog w hb sc env pb nb lent D ys W₀ s (out1 ++ out2) vars2 s' := by
  obtain ⟨h2, tk2, val2, zs2, rfl, F, no, hl, va, k2, ex2⟩ := g
  refine ⟨h2, tk2, val2, zs ++ zs2, rfl, F, no, by rw [← Array.append_assoc]; exact hl, ?_, kp.trans (k2.mono hW₁), fun a e => (ex2 a e).elim (ex a) fun w => .inr (hW₁ a w)⟩
  rw [Array.toList_append]
  exact (ra.here.kp k2 fun a o => ⟨hnot a o.2 o.1, o.1⟩).append va

theorem step_elt (ih : Snd prog w T hb n) : EltOk prog w T hb (n + 1) := by
  intro A sc env pb nb lent vars val s elt gens scope0 pos0 depth rest D ys out vars' rm hv hg F no hl hD hsz hDb k E Q q
  match rest, hg with
  | [], hg =>
    obtain ⟨a, ha, hv⟩ := bnd (show (xE T n sc vars elt).bind (fun v => (pubP v).bind fun u => some ([u], vars)) = some (out, vars') from hv)
    obtain ⟨u, hu, hv⟩ := bnd hv
    cases hv
    unfold pubP at hu
    split at hu
    · rename_i hp
      cases hu
      have hno : gens[depth + 1]? = none := List.getElem?_eq_none (List.drop_eq_nil_iff.mp hg)
      unfold emitTree
      rw [hno]
      refine wpAny_bind (wpAny_bind (ih.e A sc env vars _ s elt a.1 a.2 rm.pred ha F.reads F.fresh E _ fun cv h1 tk1 st1 r1 => ?_))
      have hl1 : h1.PlainList D ys := hl.at fun o e => st1 D o e
      refine wpAny_bind (wpAny_list_append_plain (s := { s with heap := h1, toks := tk1 }) (hsz := by rw [sizeLine_eq]; simp at hsz; (first | lia | omega)) hl1 fun h2 hl2 hs2 => wpAny_pure ?_)
      have r1' : VRep prog w h1 (fun a => (pb a ∧ nb a) ∧ ¬ Wr sc env vars val a) a.2 cv := r1 _ (.inr (.inr ⟨hp, rfl⟩))
      have hDe : h1.get? D ≠ none := by obtain ⟨m, e⟩ := hl1; rw [e]; simp
      have hDe2 : h2.get? D ≠ none := by obtain ⟨m, e⟩ := hl2; rw [e]; simp
      have hDm : Mut h1 D := by obtain ⟨m, e⟩ := hl1; exact ⟨_, e, .inl ⟨_, _, rfl⟩⟩
      have kp2 := kp_sameBut hs2 hDm (list_notTup hl1)
      have ex2 := sameBut_ex hs2 hDe2
      refine q _ ⟨h2, tk1, val, #[cv], rfl, ?_, no, by simpa using hl2, ?_, ?_, fun a e => .inl (none_of_stays st1 (ex2 a e))⟩
      · refine (F.stays st1).move kp2 (fun a e => .inr (by subst e; exact hD)) ex2 (fun a e => by rw [e]; exact hDb) (fun _ x _ => x) fun a e => F.nbf a (none_of_stays st1 (ex2 a e))
      · exact .cons (r1'.kp kp2 fun b o => ⟨fun e => hD (e ▸ o.1.2), o.1, fun x => o.2 (.of_wc x)⟩) .nil
      · exact (Kp.of_stays st1).trans (kp2.mono fun _ => .inr)
    · cases hu
  | _ :: _ :: _, _ => exact noS hv
  | [⟨t, it, ifs, k0⟩], hg =>
    obtain ⟨hz, hv⟩ := onlyIf (show (bif isZ k0 then zElt1 (zRec T n) sc vars t it ifs elt else none) = some (out, vars') from hv)
    obtain rfl := isZ_eq hz
    obtain ⟨its, hi, hv⟩ := bnd (show (xIter T n sc vars (isTupT t) it).bind (fun its => xComp T n sc vars t ifs [] elt its) = some (out, vars') from hv)
    have hsome : gens[depth + 1]? = some ⟨t, it, ifs, 0⟩ ∧ gens.drop (depth + 2) = [] := by
      have h1 : (gens.drop (depth + 1))[0]? = some ⟨t, it, ifs, 0⟩ := by rw [hg]; rfl
      rw [List.getElem?_drop] at h1
      refine ⟨h1, ?_⟩
      have h2 : (gens.drop (depth + 1)).drop 1 = [] := by rw [hg]; rfl
      rwa [List.drop_drop] at h2
    have hset : ∀ x, foldedSetIterable it env x = pure x := folded_of (by
      rintro elts k pos rfl
      cases n with
      | zero => exact noS hi
      | succ n => cases n <;> exact noS hi)
    unfold emitTree
    rw [hsome.1]
    simp only [show ((0 : Int) != 0) = false from rfl, Bool.false_eq_true, if_false]
    have inS : ∀ a, Wc sc env a → s.heap.get? a ≠ none := fun a e => (F.wc_mut e).some
    have hDe : s.heap.get? D ≠ none := by obtain ⟨m, e⟩ := hl; rw [e]; simp
    refine wpAny_bind (wpAny_mono (ih.iter A sc env vars _ s t (isTupT t) it its rm.pred hi id F.reads F.fresh E
      (fun itv s2 => wpAny (model prog w) A (runOwn (.compStart (.ListComp elt gens scope0 pos0) (depth + 1) itv (.ref D) env) env >>= fun _ => k) Q E s2) fun itv s2 pk => ?_) (fun cv s1 h1 => ?_) fun _ _ e => e)
    · obtain ⟨I, wr, dep, St, h', tk, rfl, rfl, st, W, st0, hwr, hdep⟩ := pk
      refine wpAny_bind (wpAny_runOwn ?_)
      have hcomp : codeAny (model prog w) A (.compLoop (.ListComp elt gens scope0 pos0) (depth + 1) (.ref I) (.ref D) env) (fun r s' => match r with | .ok f => wpAny (model prog w) A k Q E s' | .error e => cameBackBy (model prog w) A env E e s') { s with heap := h', toks := tk } := by
        refine ih.comp A sc env pb nb lent vars val { s with heap := h', toks := tk } t it ifs elt gens scope0 pos0 (depth + 1) [] D ys out vars' I _ wr dep its St 0 rm.pred (by simpa using hv) hsome.1 hsome.2 (F.stays st) no (hl.at fun o e => st D o e) hD hsz W st0 (Nat.zero_le _)
          (fun a o => ⟨o.1.1, fun x => o.1.2 (.of_wc x)⟩) (fun a o => ⟨fun e => inS a e (hwr a o), fun e => hDe (e ▸ hwr a o)⟩) (fun a o => ?_) (fun a o => none_of_stays F.base (hwr a o)) hDb (fun a o => ⟨F.pbf a (hwr a o), F.nbf a (hwr a o)⟩) _ fun s' g => ?_
        · rcases (hdep a o).2 with e | e
          · exact ⟨fun x => inS a x e, fun x => hDe (x ▸ e)⟩
          · exact ⟨e.2, fun x => hD (x ▸ e.1)⟩
        · refine q s' ?_
          obtain ⟨h2, tk2, val2, zs, rfl, F2, no2, hl2, va, k2, ex2⟩ := g
          refine ⟨h2, tk2, val2, zs, rfl, F2, no2, hl2, va, fun a o e c => k2 a o (st a o e) (c.imp (fun c x => ?_) id), fun a e => (ex2 a e).elim (fun z => .inl (none_of_stays st z)) fun x => x.elim (fun y => .inr (.inl y)) fun x => x.elim (fun y => .inr (.inr y)) fun y => .inl (hwr a y)⟩
          rcases x with x | x | x
          · exact c (.inl x)
          · exact c (.inr x)
          · rw [hwr a x] at e; cases e
      exact wpAny_noStart hsome.1 hcomp (W.self 0 _ _ _ st0 hcomp)
    · refine wpAny_bind (wpAny_standAt (wpAny_bind (wpAny_of_eq (hset cv) ?_)))
      exact wpAny_bind (wpAny_holding h1)
end
end Mine

namespace Mine
open PySem PySem.Calls PyProof.Rows PySem.W PySem.SeqAt

section
variable {prog : Program} {w : World} {T : Tab} {hb h h₀ h' : Heap} {n : Nat} {A : Around} {sc : Scope} {env : Env} {vars : Vars} {pub : Pubs} {pb nb : Addr → Prop} {lent : Addr} {val : Str → Option Value} {s : Shared} {p : Bool} {v : PV}

theorem noOwn_set {x : Str} {v : PV} (no : NoOwn vars) : NoOwn (setV x (.P, v) vars) := fun y md u hy => by
  by_cases hyx : y = x
  · subst hyx; rw [look_setV, if_pos rfl] at hy; cases hy; rfl
  · rw [look_isSome hyx] at hy; exact no y md u hy
theorem bind_noOwn : ∀ n : Nat, (∀ (t : Expr) (v : PV) (vars vars' : Vars), bindT n sc t v vars = some vars' → NoOwn vars → NoOwn vars') ∧ (∀ (ts : List Expr) (vs : List PV) (vars vars' : Vars), bindTs n sc ts vs vars = some vars' → NoOwn vars → NoOwn vars')
  | 0 => ⟨fun t v vars vars' e => noS e, fun t v vars vars' e => noS e⟩
  | n + 1 => by
    obtain ⟨i1, i2⟩ := bind_noOwn n
    refine ⟨fun t v vars vars' e no => ?_, fun ts vs vars vars' e no => ?_⟩
    · cases t with
      | Name x pos =>
        obtain ⟨hx, e⟩ := onlyIf (show (bif ownK sc x then some (setV x (.P, v) vars) else none) = some vars' from e)
        cases e; exact noOwn_set no
      | Tuple es k pos =>
        obtain ⟨l, _, e⟩ := bnd (show (tupL v).bind (fun l => bindTs n sc es l vars) = some vars' from e)
        exact i2 _ _ _ _ e no
      | _ => exact noS e
    · match ts, vs, e with
      | [], _ :: _, e => exact noS e
      | _ :: _, [], e => exact noS e
      | [], [], e => cases (show some vars = some vars' from e); exact no
      | t :: ts, v :: vs, e =>
        obtain ⟨v1, e1, e2⟩ := bnd (show (bindT n sc t v vars).bind (bindTs n sc ts vs) = some vars' from e)
        exact i2 _ _ _ _ e2 (i1 _ _ _ _ e1 no)

theorem step_comp (ih : Snd prog w T hb n) : CompOk prog w T hb (n + 1) := by
  intro A sc env pb nb lent vars val s target iter ifs elt gens scope0 pos0 depth rest D ys out vars' I pi wr dep its St i rm hv hg hrest F no hl hD hsz W st hi hpi hwr hdep hwb hDb hpn R q
  refine codeAny_of_tree ?_
  show wpAny _ A ((compTurn (.ListComp elt gens scope0 pos0) depth (.ref I) (.ref D) env).onRaise (fun x => do noteFrame x env; theTreesLotGoes x)) _ _ s
  refine wpAny_noted ?_
  rw [compTurn_at hg]
  refine wpAny_bind (wpAny_standAt (wpAny_bind ?_))
  cases hx : its[i]? with
  | none =>
    have hlen : i = its.length := by have := List.getElem?_eq_none_iff.mp hx; (first | lia | omega)
    subst hlen
    rw [List.drop_length] at hv
    cases (show some ([], vars) = some (out, vars') from hv)
    refine W.done s _ _ st fun h' tk k => wpAny_pure (q _ ⟨h', tk, val, #[], rfl, ?_, no, by simpa using hl.at fun o e => k D o (fun x => (hwr D x).2 rfl) e, .nil, ?_, fun a e => (ex_or k a e).imp id fun x => .inr (.inr x)⟩)
    · exact F.move' (kp_its (fun a e => W.it _ _ a st e) k) (fun a e => .inl (W.it _ _ a st e)) (fun a e => (ex_or k a e).elim (F.pbf a) fun x => (hpn a x).1) hwb (fun _ x _ => x) fun a e => (ex_or k a e).elim (F.nbf a) fun x => (hpn a x).2
    · exact (kp_its (fun a e => W.it _ _ a st e) k).mono fun _ x => .inr (.inr x)
  | some x =>
    have hlt : i < its.length := (List.getElem?_eq_some_iff.mp hx).1
    have hdrop : its.drop i = x :: its.drop (i + 1) := by rw [List.drop_eq_getElem_cons hlt, (List.getElem?_eq_some_iff.mp hx).2]
    rw [hdrop] at hv
    obtain ⟨here, hh, hv⟩ := bnd (show (zCompStep (zRec T n) sc vars target ifs rest elt x n).bind (fun here => (xComp T n sc here.2 target ifs rest elt (its.drop (i + 1))).bind fun more => some (here.1 ++ more.1, more.2)) = some (out, vars') from hv)
    obtain ⟨more, e4, hv⟩ := bnd hv
    obtain ⟨vars1, e1, hh⟩ := bnd (show (bindT n sc target x vars).bind (fun vars' => (xTs T n sc vars' .And ifs).bind fun c => bif c then xElt T n sc vars' rest elt else some ([], vars')) = some here from hh)
    obtain ⟨c, e2, e3⟩ := bnd hh
    cases hv
    refine W.go hx st (fun v => rfl) fun v h1 tk1 rv st1 k => ?_
    have kp1 := kp_its (fun a e => W.it _ _ a st e) k
    have ex1 := ex_its (fun a e => W.it _ _ a st1 e) k
    have F1 : Frame prog w hb sc env pb nb lent vars val h1 := F.move kp1 (fun a e => .inl (W.it _ _ a st e)) ex1 hwb (fun _ x _ => x) fun a e => F.nbf a (ex1 a e)
    have hl1 : h1.PlainList D ys := hl.at fun o e => k D o (fun x => (hwr D x).2 rfl) e
    have piD : ∀ a, pi a → a ≠ D := fun a o e => hD (e ▸ (hpi a o).1.2)
    refine wpAny_bind ((bind_sound rm.h n).1 target x vars vars1 val { s with heap := h1, toks := tk1 } v pi _ _ e1 F1 rv (fun a o => ⟨(hpi a o).1, fun x => (hpi a o).2 (no.wr x)⟩) fun h2 tk2 val1 F2 adv2 hw2 => ?_)
    have no1 := (bind_noOwn n).1 _ _ _ _ e1 no
    have hl2 : h2.PlainList D ys := hl1.at fun o e => adv2.kp D o e (.inl fun x => hD (F1.wr_nb x))
    have rm' := rm.pred
    refine wpAny_bind ((ih.ts A sc env vars1 _ { s with heap := h2, toks := tk2 } .And ifs c rm' e2 F2.reads F2.fresh).2 rfl _ _ fun h3 tk3 st3 => ?_)
    have F3 := F2.stays st3
    have hl3 : h3.PlainList D ys := hl2.at fun o e => st3 D o e
    have inS : ∀ a, Wc sc env a → ¬ wr a := fun a x y => (hwr a y).1 x
    -- from here on
    have go : ∀ (h4 : Heap) (tk4 : Nat) (val4 : Str → Option Value) (zs : Array Value), Frame prog w hb sc env pb nb lent here.2 val4 h4 → NoOwn here.2 → h4.PlainList D (ys ++ zs) → VAll prog w h4 (fun a => (pb a ∧ nb a) ∧ ¬ Wc sc env a) here.1 zs.toList → Kp (fun a => Wc sc env a ∨ a = D) h3 h4 → (∀ a, h4.get? a = none → h3.get? a = none ∨ (Wc sc env a ∨ a = D)) →
        codeAny (model prog w) A (.compLoop (.ListComp elt gens scope0 pos0) depth (.ref I) (.ref D) env) R { s with heap := h4, toks := tk4 } := by
      intro h4 tk4 val4 zs F4 no4 hl4 va k4 ex4
      have tot : Kp (fun a => Wc sc env a ∨ a = D) h1 h4 := ((adv2.kp.mono fun a x => .inl (no.wr x)).trans (Kp.of_stays st3)).trans k4
      have st4 : St (i + 1) h4 := W.frame _ _ _ _ (fun a o x => x.elim (hpi a o).2 (piD a o)) (fun a o x => x.elim (hwr a o).1 (hwr a o).2) (fun a o x => x.elim (hdep a o).1 (hdep a o).2) tot st1
      have hzs : zs.size = here.1.length := by have := va.length; simp at this; (first | lia | omega)
      refine ih.comp A sc env pb nb lent here.2 val4 { s with heap := h4, toks := tk4 } target iter ifs elt gens scope0 pos0 depth rest D (ys ++ zs) more.1 more.2 I pi wr dep its St (i + 1) rm' e4 hg hrest F4 no4 hl4 hD (by simp [hzs] at hsz ⊢; (first | lia | omega)) W st4 hlt hpi hwr hdep hwb hDb hpn R fun s' g => ?_
      refine q s' (Grown.trans va ((kp1.mono fun _ x => .inr (.inr x)).trans (tot.mono fun _ x => x.elim .inl fun y => .inr (.inl y))) (fun a e => (ex4 a e).elim (fun z => (adv2.ex a (none_of_stays st3 z)).elim (fun z => .inl (ex1 a z)) fun z => .inr (.inl (no.wr z))) fun z => .inr (z.elim .inl fun y => .inr (.inl y))) (fun _ x => x) (fun a hc o x => ?_) g)
      rcases x with x | x | x
      · exact o.2 x
      · exact hD (x ▸ o.1.2)
      · exact ItOb.not hc.mut (W.it _ _ a st4 x)
    cases c with
    | false =>
      cases (show some ([], vars1) = some here from e3)
      exact wpAny_pure ⟨rfl, go h3 tk3 val1 #[] F3 no1 (by simpa using hl3) .nil (Kp.refl _ _) fun _ x => .inl x⟩
    | true =>
      refine ih.elt A sc env pb nb lent vars1 val1 { s with heap := h3, toks := tk3 } elt gens scope0 pos0 depth rest D ys here.1 here.2 rm' e3 hrest F3 no1 hl3 hD (by simp at hsz; (first | lia | omega)) hDb _ _ _ fun s' g => ?_
      obtain ⟨h4, tk4, val4, zs, rfl, F4, no4, hl4, va, k4, ex4⟩ := g
      exact wpAny_pure ⟨rfl, go h4 tk4 val4 zs F4 no4 hl4 va k4 ex4⟩

theorem comp_run (ih : Snd prog w T hb n) (rm : Room A n) {elt t it : Expr} {ifs : List Expr} {rest : List Comprehension} {scope : Scope} {pos : Pos} {items : List PV} {r : List PV × Vars} {use : Option (Value → Sem Unit)} {E : Value → Shared → Prop} {Q : Value → Shared → Prop}
    (R : Reads prog w hb sc env pub vars s.heap) (F : ∀ b, s.heap.get? b = none → pub.p b) (hok : compOk sc scope = true) (hi : xIter T n sc vars (isTupT t) it = some items) (hc : xComp T n scope (within scope.names vars) t ifs rest elt items = some r) (hz : szOk r.1.length = true)
    (q : ∀ C D h' tk m, s.heap.StaysIn h' → s.heap.get? D = none → s.heap.get? C = none → h'.Ns C m → VRep prog w h' (fun a => pub.p a ∧ a ≠ C) (.list r.1) (.ref D) → compPost (model prog w) A E use Q (.ref D) C (.ok .next) { s with heap := h', toks := tk }) :
    wpAny (model prog w) A (comprehension (.ListComp elt (⟨t, it, ifs, 0⟩ :: rest) scope pos) scope env (firstIterPos (⟨t, it, ifs, 0⟩ :: rest) pos) (newList []) false (eval it env) use) Q E s := by
  obtain ⟨hkind, hnd, hfree⟩ := compOk_parts hok
  have hset : ∀ x, foldedSetIterable it env x = pure x := folded_of (by
    rintro elts k pos rfl
    cases n with
    | zero => exact noS hi
    | succ n => cases n <;> exact noS hi)
  refine wpAny_comprehension_free (g := ⟨t, it, ifs, 0⟩) (gs := rest) rfl hset (closureFor_pure fun x hx => let ⟨c, _, e, _⟩ := R.cel x (hfree x hx).2; ⟨c, e⟩) hkind (fun x hx hk => lookup_mem' hnd (by obtain ⟨a, b⟩ := x; exact hk ▸ hx)) ?_
  refine ih.iter A sc env vars pub s t (isTupT t) it items rm hi id R F E _ fun itv s2 pk => ?_
  obtain ⟨I, wr, dep, St, h2, tk, rfl, rfl, st, W, st0, hwr, hdep⟩ := pk
  refine wpAny_newObj_type ?_
  refine wpAny_newFunctionEnv_comp ?_
  have st3 : s.heap.StaysIn (h2.push { cls := .type "list", data := .seq ([] : List Value).toArray }) := stays_trans st (stays_push _ _)
  have hDs : s.heap.get? h2.objs.size = none := none_of_stays st (fresh_none h2)
  have hpl : (h2.push { cls := .type "list", data := .seq ([] : List Value).toArray }).PlainList h2.objs.size #[] := ⟨0, Heap.get?_push_size _ rfl⟩
  have hD3 : (h2.push { cls := .type "list", data := .seq ([] : List Value).toArray }).get? h2.objs.size ≠ none := by obtain ⟨m, e⟩ := hpl; rw [e]; simp
  obtain ⟨⟨val, Fr⟩, no, st4, wcf⟩ := comp_frame (lent := 0) R F st3 hDs hD3 hok
  have st4' := stays_trans (stays_push h2 { cls := .type "list", data := .seq ([] : List Value).toArray }) st4
  have wcD : ∀ a, Wc scope (compEnv' scope env (h2.push { cls := .type "list", data := .seq ([] : List Value).toArray }).objs.size) a → a ≠ h2.objs.size := fun a e q => hD3 (q ▸ wcf a e)
  have wc2 : ∀ a, Wc scope (compEnv' scope env (h2.push { cls := .type "list", data := .seq ([] : List Value).toArray }).objs.size) a → h2.get? a = none := fun a e => none_of_stays (stays_push _ _) (wcf a e)
  have hcomp : codeAny (model prog w) A (.compLoop (.ListComp elt (⟨t, it, ifs, 0⟩ :: rest) scope pos) 0 (.ref I) (.ref h2.objs.size) (compEnv' scope env (h2.push { cls := .type "list", data := .seq ([] : List Value).toArray }).objs.size))
      (compPost (model prog w) A E use Q (.ref h2.objs.size) (h2.push { cls := .type "list", data := .seq ([] : List Value).toArray }).objs.size)
      { s with heap := pushCells ((h2.push { cls := .type "list", data := .seq ([] : List Value).toArray }).push { cls := .type "dict", data := .dict #[] }) scope.names, toks := tk } := by
    refine ih.comp A scope _ pub.p (fun a => a ≠ h2.objs.size) 0 (within scope.names vars) val _ t it ifs elt _ scope pos 0 rest h2.objs.size #[] r.1 r.2 I _ wr dep items St 0 rm (by simpa using hc) rfl rfl Fr no (hpl.at fun o e => st4 _ o e) (fun e => e rfl) (by have := hz; simp [szOk] at this; simpa using this) W
      (W.frame (fun _ => False) 0 h2 _ (fun _ _ => id) (fun _ _ => id) (fun _ _ => id) (Kp.of_stays st4') st0) (Nat.zero_le _)
      (fun a o => ⟨⟨o.1, fun e => o.2 (e ▸ fresh_none h2)⟩, fun x => o.2 (wc2 a x)⟩) (fun a o => ?_) (fun a o => ?_) (fun a o => none_of_stays R.base (hwr a o)) (none_of_stays R.base hDs) (fun a o => ⟨F a (hwr a o), fun e => by have := (W.it _ _ a st0 o).some; rw [e, fresh_none] at this; exact this rfl⟩) _ fun s' g => ?_
    · have hex : h2.get? a ≠ none := (W.it _ _ a st0 o).some
      exact ⟨fun x => hex (wc2 a x), fun e => hex (e ▸ fresh_none h2)⟩
    · have hex := (hdep a o).1
      exact ⟨fun x => hex (wc2 a x), fun e => hex (e ▸ fresh_none h2)⟩
    · obtain ⟨h5, tk5, val5, zs, rfl, F5, no5, hl5, va, k5, ex5⟩ := g
      obtain ⟨m, hm, _⟩ := F5.ns
      have hC : s.heap.get? (h2.push { cls := .type "list", data := .seq ([] : List Value).toArray }).objs.size = none := none_of_stays st3 (fresh_none _)
      refine q _ _ h5 tk5 m (fun b o e => k5 b o (st4' b o (st b o e)) (.inl ?_)) hDs hC hm ?_
      · rintro (x | x | x)
        · rw [none_of_stays st (wc2 b x)] at e; cases e
        · rw [x, hDs] at e; cases e
        · rw [hwr b x] at e; cases e
      · refine .list ⟨F _ hDs, fun e => hD3 (by rw [e]; exact fresh_none _)⟩ (by simpa using hl5) (va.weaken fun a o => ⟨o.1.1, fun e => o.2 (.inl e)⟩)
  exact wpAny_noStart (gens := ⟨t, it, ifs, 0⟩ :: rest) (depth := 0) rfl hcomp (W.self 0 _ _ _ (W.frame (fun _ => False) 0 h2 _ (fun _ _ => id) (fun _ _ => id) (fun _ _ => id) (Kp.of_stays st4') st0) hcomp)

theorem e_comp (ih : Snd prog w T hb n) (rm : Room A n) {elt t it : Expr} {ifs : List Expr} {rest : List Comprehension} {scope : Scope} {pos : Pos} {items : List PV} {r : List PV × Vars}
    (R : Reads prog w hb sc env pub vars s.heap) (F : ∀ b, s.heap.get? b = none → pub.p b) (hok : compOk sc scope = true) (hi : xIter T n sc vars (isTupT t) it = some items) (hc : xComp T n scope (within scope.names vars) t ifs rest elt items = some r) (hz : szOk r.1.length = true) :
    Gets prog w A s (eval (.ListComp elt (⟨t, it, ifs, 0⟩ :: rest) scope pos) env) (Oks true pub) (.list r.1) := fun E Q q => by
  rw [eval_ListComp]
  refine comp_run ih rm (use := none) R F hok hi hc hz fun C D h' tk m st hD hC hm rp => ⟨m, hm, fun h'' hs => ?_⟩
  have kp := kp_sameBut hs (ns_mut hm) (ns_notTup hm)
  have rp' : VRep prog w h'' pub.p (.list r.1) (.ref D) := rp.kp kp fun a o => ⟨fun e => o.2 e, o.1⟩
  refine q _ h'' tk (fun b o e => ?_) fun ok o => ?_
  · have : b ≠ C := by rintro rfl; rw [hC] at e; cases e
    exact (hs.2 b this).trans (st b o e)
  · rcases o with rfl | rfl | ⟨_, rfl⟩
    · exact rp'.weaken fun _ _ => trivial
    · exact rp'.weaken pub.sub
    · exact rp'
end
end Mine

namespace Mine
open PySem PySem.Calls PyProof.Rows PySem.W PySem.SeqAt

noncomputable def MethOf (s : Shared) (name : Str) (ov : Value) (K : String → Prop) : Prop :=
  ∃ T id, PlainAttrs T ∧ Slot T name id ∧ typeOf (.builtin id) = pure (.type "method_descriptor") ∧ s.TypeIs ov T ∧ (∀ a, ov = .ref a → ∃ ob, s.heap.get? a = some ob ∧ ob.dict = none) ∧ K id

structure Leafs (prog : Program) (w : World) : Prop where
  biV : ∀ {A : Around} {n : Nat} {s : Shared} {pub : Pubs} {b : BI} {p : Bool} {v r : PV} {cv : Value}, Room A n → s.heap.get? mainGlobals ≠ none → Mine.biV b (p, v) = some r → (∀ b, s.heap.get? b = none → pub.p b) → (∀ ok, Oks p pub ok → VRep prog w s.heap ok v cv) →
    Gets prog w A s (call (biVal b) [cv]) (Oks true pub) r
  bi2 : ∀ {A : Around} {n : Nat} {s : Shared} {pub : Pubs} {b : BI} {v1 v2 r : PV} {c1 c2 : Value}, Room A n → Mine.bi2 b v1 v2 = some r → VRep prog w s.heap (fun _ => True) v1 c1 → VRep prog w s.heap (fun _ => True) v2 c2 →
    Gets prog w A s (call (biVal b) [c1, c2]) (Oks true pub) r
  isi : ∀ {A : Around} {n : Nat} {s : Shared} {pub : Pubs} {v r : PV} {cv : Value}, Room A n → isiP v = some r → VRep prog w s.heap (fun _ => True) v cv → Gets prog w A s (call (.builtin "isinstance") [cv, .type "tuple"]) (Oks true pub) r
  meth1 : ∀ {A : Around} {n : Nat} {s : Shared} {pub : Pubs} {name : Str} {o x r : PV} {co : Value}, Room A n → Mine.meth1 name o x = some r → VRep prog w s.heap (fun _ => True) o co →
    MethOf s name co fun id => ∀ h' tk cx, s.heap.StaysIn h' → VRep prog w h' (fun _ => True) x cx → Gets prog w A { s with heap := h', toks := tk } (call (.builtin id) [co, cx]) (Oks true pub) r
  iterV : ∀ {A : Around} {n : Nat} {s : Shared} {pub : Pubs} {a : Bool × PV} {its : List PV} {cv : Value} {target : Expr} {E : Value → Shared → Prop} {Q : Value → Shared → Prop}, Room A n → itemsP a = some its → (∀ ok, Oks a.1 pub ok → VRep prog w s.heap ok a.2 cv) →
    (∀ it s', Pack prog w A s target pub.p pub.nw its it s' → Q it s') → wpAny (model prog w) A (pyIter cv) Q E s
  iterRange : ∀ {A : Around} {n : Nat} {s : Shared} {pub : Pubs} {vs : List PV} {its : List PV} {cs : List Value} {target : Expr} {E : Value → Shared → Prop} {Q : Value → Shared → Prop}, Room A n → evalRange vs = some its → VAll prog w s.heap (fun _ => True) vs cs →
    (∀ it s', Pack prog w A s target pub.p pub.nw its it s' → Q it s') → wpAny (model prog w) A (call (.type "range") cs) (fun cv s₁ => wpAny (model prog w) A (pyIter cv) Q E s₁) E s
  view : ∀ {A : Around} {n : Nat} {s : Shared} {pub : Pubs} {a : Bool × PV} {tup : Bool} {name : Str} {its : List PV} {co : Value} {target : Expr} {E : Value → Shared → Prop} {Q : Value → Shared → Prop}, Room A n → viewP tup name a = some its → (tup = true → isTupT target = true) → (∀ ok, Oks a.1 pub ok → VRep prog w s.heap ok a.2 co) →
    (∀ it s', Pack prog w A s target pub.p pub.nw its it s' → Q it s') → MethOf s name co fun id => wpAny (model prog w) A (call (.builtin id) [co]) (fun cv s₁ => wpAny (model prog w) A (pyIter cv) Q E s₁) E s
  ofRange : ∀ {A : Around} {n : Nat} {s : Shared} {pub : Pubs} {vs : List PV} {l : List PV} {r : PV} {b : BI} {cs : List Value} {E : Value → Shared → Prop} {Q : Value → Shared → Prop}, Room A n → (b = .list ∨ b = .tuple) → evalRange vs = some l → biIt b l = some r → VAll prog w s.heap (fun _ => True) vs cs → (∀ b, s.heap.get? b = none → pub.p b) →
    (∀ cv h' tk, s.heap.StaysIn h' → (∀ ok, Oks true pub ok → VRep prog w h' ok r cv) → Q cv { s with heap := h', toks := tk }) → wpAny (model prog w) A (call (.type "range") cs) (fun cv s₁ => wpAny (model prog w) A (call (biVal b) [cv]) Q E s₁) E s
  put : ∀ {A : Around} {n : Nat} {s : Shared} {ks vs ks' vs' : List PV} {k v : PV} {d : Addr} {ck cv : Value} {E : Value → Shared → Prop} {Q : Unit → Shared → Prop}, Room A n → keyP k = true → v.imm = true → szOk ks.length = true → putD2 k v ks vs = some (ks', vs') → okItems (.dict ks vs) = true →
    VRep prog w s.heap (fun b => b = d) (.dict ks vs) (.ref d) → VRep prog w s.heap (fun _ => True) k ck → VRep prog w s.heap (fun _ => True) v cv →
    (∀ h' tk, VRep prog w h' (fun b => b = d) (.dict ks' vs') (.ref d) → Heap.SameBut d s.heap h' → Q () { s with heap := h', toks := tk }) → wpAny (model prog w) A (dictSet d ck cv) Q E s ∧ wpAny (model prog w) A (setItem (.ref d) ck cv) Q E s
  lmeth : ∀ {A : Around} {n : Nat} {s : Shared} {m : Str} {as : List (Bool × PV)} {l l' : List PV} {d : Addr} , Room A n → methL m (as.map (·.2)) l = some l' → okItems (.list l) = true → VRep prog w s.heap (fun b => b = d) (.list l) (.ref d) →
    MethOf s m (.ref d) fun id => ∀ h' tk cs pub (E : Value → Shared → Prop) (Q : Value → Shared → Prop), s.heap.StaysIn h' → VsRep prog w h' pub as cs →
      (∀ h'' tk', VRep prog w h'' (fun b => b = d) (.list l') (.ref d) → Heap.SameBut d h' h'' → Q .none { s with heap := h'', toks := tk' }) → wpAny (model prog w) A (call (.builtin id) (.ref d :: cs)) Q E { s with heap := h', toks := tk }

section
variable {prog : Program} {w : World} {T : Tab} {hb h h₀ h' : Heap} {n : Nat} {A : Around} {sc : Scope} {env : Env} {vars : Vars} {pub : Pubs} {pb nb : Addr → Prop} {lent : Addr} {val : Str → Option Value} {s : Shared} {p : Bool} {v : PV}

theorem isG_kind {f : Str} (h : isG sc f = true) : kindIn f sc.names = some .globalImplicit := by
  unfold isG at h
  split at h
  · assumption
  · cases h
theorem biOf_debug {f : Str} {b : BI} (h : biOf f = some b) : (f == ("__debug__" : Str)) = false := by
  cases q : (f == ("__debug__" : Str)) with
  | false => rfl
  | true =>
    have := beq_iff_eq.mp q
    subst this
    have : biOf "__debug__" = none := by decide +kernel
    rw [this] at h; cases h

theorem load_bi (G : Glob T hb) (R : Reads prog w hb sc env pub vars s.heap) {f : Str} {q : Pos} {b : BI} {E : Value → Shared → Prop} {Q : Value → Shared → Prop} (hg : isG sc f = true) (hb' : biOf f = some b) (k : Q (biVal b) s) :
    wpAny (model prog w) A (eval (.Name f q) env) Q E s := by
  obtain ⟨mg, mb, h1, h2, h3, _⟩ := G.ns
  obtain ⟨e1, e2⟩ := h3 f b hb'
  have hk : env.kindOf f = some .globalImplicit := (R.kok f _ (isG_kind hg)).elim id fun e => by cases e.1
  refine Name_function_global R.kind hk (loadGlobal_builtin (mg := mg) (mb := mb) ?_ e1 ?_ e2 k) (biOf_debug hb')
  · rw [R.glob]; exact h1.keeps R.base
  · rw [R.blt]; exact h2.keeps R.base
theorem load_fn (G : Glob T hb) (R : Reads prog w hb sc env pub vars s.heap) {f : Str} {q : Pos} {fn : Fn} {E : Value → Shared → Prop} {Q : Value → Shared → Prop} (hg : isG sc f = true) (hf : tabLook f T = some fn) (k : ∀ a, FnAt hb a fn → Q (.ref a) s) :
    wpAny (model prog w) A (eval (.Name f q) env) Q E s := by
  obtain ⟨mg, mb, h1, _, _, h3⟩ := G.ns
  obtain ⟨hd, a, e1, fa⟩ := h3 f fn hf
  have hk : env.kindOf f = some .globalImplicit := (R.kok f _ (isG_kind hg)).elim id fun e => by cases e.1
  refine Name_function_global R.kind hk (loadGlobal_global (mg := mg) ?_ e1 (k a fa)) hd
  rw [R.glob]; exact h1.keeps R.base

theorem es_plain {vars : Vars} {pos : Pos} {env : Env} : ∀ {es : List Expr} {n : Nat} {vs : List (Bool × PV)}, xEs T n sc vars es = some vs → (backTo pos (starEach es env)).any (·.1) = false ∧ (es = [] ∨ ∃ x rest, backTo pos (starEach es env) = (false, x) :: rest)
  | [], n, vs, h => ⟨rfl, .inl rfl⟩
  | e :: r, n, vs, h => by
    cases n with
    | zero => exact noS h
    | succ n =>
      obtain ⟨a, ha, hv⟩ := bnd (show (xE T n sc vars e).bind (fun v => (xEs T n sc vars r).bind fun vs => some (v :: vs)) = some vs from h)
      obtain ⟨as, has, hv⟩ := bnd hv
      have ih := es_plain (pos := pos) (env := env) has
      rw [star_of ha r env]
      refine ⟨?_, .inr ⟨_, _, rfl⟩⟩
      show (false || (backTo pos (starEach r env)).any (·.1)) = false
      rw [ih.1]; rfl
theorem args_go {es : List Expr} {vs : List (Bool × PV)} {pos : Pos} {f : Value} {E : Value → Shared → Prop} {Q : Args → Shared → Prop} {n : Nat} (h : xEs T n sc vars es = some vs)
    (k : wpAny (model prog w) A (spliced (backTo pos (starEach es env))) (fun cs s₁ => Q ⟨cs, []⟩ s₁) E s) : wpAny (model prog w) A (evalArgs f true (backTo pos (starEach es env)) []) Q E s := by
  rcases (es_plain (pos := pos) (env := env) h).2 with rfl | ⟨x, rest, e⟩
  · have k' : wpAny (model prog w) A (spliced []) (fun cs s₁ => Q ⟨cs, []⟩ s₁) E s := k
    show wpAny (model prog w) A (evalArgs f true [] []) Q E s
    unfold evalArgs
    show wpAny (model prog w) A (spliced [] >>= _) Q E s
    refine wpAny_bind (wpAny_mono k' (fun cs s₁ h₁ => wpAny_bind (wpAny_pure ?_)) fun _ _ e => e)
    refine wpAny_holding ?_
    exact wpAny_bind (wpAny_pure (wpAny_bind (wpAny_pure (wpAny_pure h₁))))
  · rw [e] at k ⊢
    exact Calls.evalArgs_plain k
theorem call_bi {b : BI} {args : List (Bool × Sem Value)} {pos : Pos} {E : Value → Shared → Prop} {Q : Value → Shared → Prop} (hp : args.any (·.1) = false)
    (h : wpAny (model prog w) A (evalArgs (biVal b) true args []) (fun a s₁ => wpAny (model prog w) A (call (biVal b) ([] ++ a.pos) a.kw) Q E s₁) E s) : wpAny (model prog w) A (callWith pos (biVal b) [] args []) Q E s := by
  cases b with
  | len => exact Calls.callWith_builtin (id := "len") (first := []) hp h
  | abs => exact Calls.callWith_builtin (id := "abs") (first := []) hp h
  | min => exact Calls.callWith_builtin (id := "min") (first := []) hp h
  | max => exact Calls.callWith_builtin (id := "max") (first := []) hp h
  | sum => exact Calls.callWith_builtin (id := "sum") (first := []) hp h
  | sorted => exact Calls.callWith_builtin (id := "sorted") (first := []) hp h
  | isinstance => exact Calls.callWith_builtin (id := "isinstance") (first := []) hp h
  | list => exact PyProof.Rows.callWith_type (T := "list") (first := []) hp h
  | tuple => exact PyProof.Rows.callWith_type (T := "tuple") (first := []) hp h
  | dict => exact PyProof.Rows.callWith_type (T := "dict") (first := []) hp h
  | range => exact PyProof.Rows.callWith_type (T := "range") (first := []) hp h
  | enumerate => exact PyProof.Rows.callWith_type (T := "enumerate") (first := []) hp h

theorem few_args {b : Bool} {n : Nat} {pos : Pos} {env : Env} (h : b = true) (hl : n < 30) : (b && (backToKw pos (keywordEach [] env)).all (fun x => x.1.isSome) && decide (n + ([] : List Keyword).length + (if ([] : List Keyword).isEmpty then 0 else 1) < 30)) = true := by
  rw [h]
  exact decide_eq_true hl
theorem meth_call {o : Expr} {name : Str} {apos pos : Pos} {args : List Expr} {vs : List (Bool × PV)} {n : Nat} {E : Value → Shared → Prop} {Q : Value → Shared → Prop} (hb : plainBase o = true) (hline : (apos.endLine == pos.line) = true) (hes : xEs T n sc vars args = some vs) (hfew : args.length < 30)
    (h : wpAny (model prog w) A (eval o env) (fun ov s₁ => MethOf s₁ name ov fun id => wpAny (model prog w) A (spliced (backTo pos (starEach args env))) (fun cs s₂ => wpAny (model prog w) A (call (.builtin id) (ov :: cs)) Q E s₂) E s₁) E s) :
    wpAny (model prog w) A (eval (.Call (.Attribute o name apos) args [] pos) env) Q E s := by
  obtain ⟨hp, _⟩ := es_plain (pos := pos) (env := env) hes
  refine wpAny_Call_method_late (by cases o <;> first | rfl | cases hb) ?_ hline rfl (wpAny_mono h (fun ov s₁ h₁ => ?_) fun _ _ e => e)
  · have : (backTo pos (starEach args env)).all (fun x => !x.1) = true := by
      rw [List.all_eq_not_any_not]; simp only [Bool.not_not]; rw [hp]; rfl
    exact few_args this hfew
  · obtain ⟨T', id, a, b, c, d, e, f⟩ := h₁
    exact ⟨T', id, a, b, c, d, e, Calls.callWith_builtin hp (args_go hes (wpAny_mono f (fun _ _ x => x) fun _ _ x => x))⟩

theorem Glob.main (G : Glob T hb) (st : hb.StaysIn h) : h.get? mainGlobals ≠ none := by
  obtain ⟨mg, mb, hn, _⟩ := G.ns
  obtain ⟨o, es, ep, ho, _⟩ := hn
  rw [st _ _ ho]; simp

end
end Mine

namespace Mine
open PySem PySem.Calls PyProof.Rows PySem.W PySem.SeqAt

section
variable {prog : Program} {w : World} {T : Tab} {hb h h₀ h' : Heap} {n : Nat} {A : Around} {sc : Scope} {env : Env} {vars : Vars} {pub : Pubs} {pb nb : Addr → Prop} {lent : Addr} {val : Str → Option Value} {s : Shared} {p : Bool} {v : PV}

theorem Pack.back {h1 : Heap} {tk1 : Nat} {target : Expr} {pl dk : Addr → Prop} {its : List PV} {it : Value} {s' : Shared} (st : s.heap.StaysIn h1) (pk : Pack prog w A { s with heap := h1, toks := tk1 } target pl dk its it s') : Pack prog w A s target pl dk its it s' := by
  obtain ⟨I, wr, dep, St, h', tk, rfl, rfl, st', W, st0, hwr, hdep⟩ := pk
  exact ⟨I, wr, dep, St, h', tk, rfl, rfl, stays_trans st st', W, st0, fun a o => none_of_stays st (hwr a o), fun a o => ⟨(hdep a o).1, (hdep a o).2.imp (none_of_stays st) id⟩⟩

theorem name_call {f : Str} {q p : Pos} {args : List Expr} {b : BI} {vs : List (Bool × PV)} {E : Value → Shared → Prop} {Q : Value → Shared → Prop} (ih : Snd prog w T hb n) (G : Glob T hb) (rm : Room A n) (R : Reads prog w hb sc env pub vars s.heap) (F : ∀ b, s.heap.get? b = none → pub.p b)
    (hg : isG sc f = true) (hb' : biOf f = some b) (has : xEs T n sc vars args = some vs)
    (k : ∀ cs h1 tk1, s.heap.StaysIn h1 → VsRep prog w h1 pub vs cs → wpAny (model prog w) A (call (biVal b) cs) Q E { s with heap := h1, toks := tk1 }) : wpAny (model prog w) A (eval (.Call (.Name f q) args [] p) env) Q E s := by
  rw [arm_eval_Call_Name']
  refine wpAny_bind (load_bi G R hg hb' ?_)
  show wpAny _ _ (callWith p (biVal b) [] (backTo p (starEach args env)) []) _ _ _
  exact call_bi (es_plain has).1 (args_go has (ih.es A sc env vars pub s args vs rm has R F p E _ fun cs h1 tk1 st1 vr => k cs h1 tk1 st1 vr))

theorem view_call {d name : Str} {q apos pos : Pos} {a : Bool × PV} {K : String → Value → Shared → Prop} {E : Value → Shared → Prop} {Q : Value → Shared → Prop} (ih : Snd prog w T hb n) (rm : Room A n) (R : Reads prog w hb sc env pub vars s.heap) (F : ∀ b, s.heap.get? b = none → pub.p b)
    (hline : (apos.endLine == pos.line) = true) (ha : xE T n sc vars (.Name d q) = some a)
    (k : ∀ co h1 tk1, s.heap.StaysIn h1 → (∀ ok, Oks a.1 pub ok → VRep prog w h1 ok a.2 co) → MethOf { s with heap := h1, toks := tk1 } name co fun id => wpAny (model prog w) A (call (.builtin id) [co]) Q E { s with heap := h1, toks := tk1 }) :
    wpAny (model prog w) A (eval (.Call (.Attribute (.Name d q) name apos) [] [] pos) env) Q E s := by
  refine meth_call (n := 1) (sc := sc) (vars := vars) (T := T) rfl hline rfl (by decide) ?_
  refine ih.e A sc env vars pub s _ a.1 a.2 rm ha R F E _ fun co h1 tk1 st1 r1 => ?_
  obtain ⟨T', id, x1, x2, x3, x4, x5, x6⟩ := k co h1 tk1 st1 r1
  exact ⟨T', id, x1, x2, x3, x4, x5, wpAny_items_nil x6⟩

theorem iter_any (ih : Snd prog w T hb n) (LF : Leafs prog w) (rm : Room A n) (R : Reads prog w hb sc env pub vars s.heap) (F : ∀ b, s.heap.get? b = none → pub.p b) {target e : Expr} {its : List PV} (hv : (xE T n sc vars e).bind itemsP = some its)
    (E : Value → Shared → Prop) (Q : Value → Shared → Prop) (q : ∀ it s', Pack prog w A s target pub.p pub.nw its it s' → Q it s') : wpAny (model prog w) A (eval e env) (fun cv s₁ => wpAny (model prog w) A (pyIter cv) Q E s₁) E s := by
  obtain ⟨a, ha, hv⟩ := bnd hv
  exact ih.e A sc env vars pub s _ a.1 a.2 rm ha R F E _ fun cv h1 tk1 st1 r1 => LF.iterV rm hv r1 fun it s' pk => q it s' (pk.back st1)
theorem step_iter (ih : Snd prog w T hb n) (G : Glob T hb) (LF : Leafs prog w) : IterOk prog w T hb (n + 1) := by
  intro A sc env vars pub s target tup e its rm hv htup R F E Q q
  have rm' := rm.pred
  have hv : zIterK (zRec T n) sc vars tup e (iterKind e) = some its := hv
  rcases iterKind_is (e := e) with ⟨f, fq, args, p, he, hk⟩ | ⟨d, dq, name, apos, pos, he, hk⟩ | hk
  · rw [hk] at hv
    obtain ⟨hg, hv⟩ := onlyIf hv
    have hv : (bif isRng (biOf f) then (xEs T n sc vars args).bind (fun as => evalRange (as.map (·.2))) else (xE T n sc vars e).bind itemsP) = some its := hv
    cases hr : isRng (biOf f) with
    | true =>
      rw [hr] at hv
      obtain ⟨as, has, hv⟩ := bnd hv
      rw [he]
      exact name_call ih G rm' R F hg (isRng_eq hr) has fun cs h1 tk1 st1 vr => LF.iterRange rm' hv (vr.all (q := false) (by simp) _ .T) fun it s' pk => q it s' (pk.back st1)
    | false =>
      rw [hr] at hv
      exact iter_any ih LF rm' R F hv E Q q
  · rw [hk] at hv
    obtain ⟨hline, hv⟩ := onlyIf hv
    obtain ⟨a, ha, hv⟩ := bnd hv
    rw [he]
    exact view_call (K := fun _ _ _ => True) ih rm' R F hline ha fun co h1 tk1 st1 r1 => LF.view rm' hv htup r1 fun it s' pk => q it s' (pk.back st1)
  · rw [hk] at hv
    exact iter_any ih LF rm' R F hv E Q q

noncomputable def forPubs (sc : Scope) (env : Env) (pb nb : Addr → Prop) (vars : Vars) (val : Str → Option Value) : Pubs where
  p := fun a => (pb a ∧ nb a) ∧ ¬ Wr sc env vars val a
  nw := fun a => ¬ Wr sc env vars val a
  sub := fun _ o => o.2
theorem oks_for {a : Bool × PV} {cv : Value} (r : VRep prog w h (frPubs sc env pb nb vars val).p a.2 cv) : ∀ ok, Oks a.1 (forPubs sc env pb nb vars val) ok → VRep prog w h ok a.2 cv := fun ok o => by
  rcases o with rfl | rfl | ⟨_, rfl⟩
  · exact r.weaken fun _ _ => trivial
  · exact r.weaken fun _ o => o.2
  · exact r
theorem nameS_rep {sl : Mode × PV} {a : Bool × PV} {cv : Value} (F : Frame prog w hb sc env pb nb lent vars val h) (hn : nameS sl = some a) (hs : SlotAt prog w h pb nb lent (Wr sc env vars val) sl.1 sl.2 cv) :
    ∀ ok, Oks a.1 (forPubs sc env pb nb vars val) ok → VRep prog w h ok a.2 cv := by
  obtain ⟨md, v⟩ := sl
  unfold nameS at hn
  cases md with
  | O => cases hn
  | M => cases hn
  | P => cases hn; exact oks_for (a := (true, v)) hs
  | B =>
    cases hn
    intro ok o
    rcases o with rfl | rfl | ⟨hp, rfl⟩
    · exact VRep.weaken (fun _ _ => trivial) hs
    · exact VRep.weaken (fun _ o => o.2) hs
    · exact imm_any (by simpa using hp) hs

theorem Frame.name {x : Str} {q : Pos} {sl : Mode × PV} {E : Value → Shared → Prop} {Q : Value → Shared → Prop} (F : Frame prog w hb sc env pb nb lent vars val s.heap) (hk : readK sc x = true) (ho : oddName x = false) (hx : look x vars = some sl)
    (k : ∀ cv, val x = some cv → SlotAt prog w s.heap pb nb lent (Wr sc env vars val) sl.1 sl.2 cv → Q cv s) : wpAny (model prog w) A (eval (.Name x q) env) Q E s := by
  obtain ⟨md, v⟩ := sl
  obtain ⟨hd, hc⟩ := oddName_no (x := x) (by simp [ho])
  obtain ⟨cv, hv, hs⟩ := F.slots x md v hx
  have hs' : (look x vars).isSome = true := by rw [hx]; rfl
  have hc' : (x == ("__classdict__" : Str)) = false := by simpa using hc
  refine wpAny_Name ?_ hd
  unfold readK at hk
  split at hk
  · rename_i e
    obtain ⟨m, hn, hm⟩ := F.ns
    exact wpAny_loadName_local F.kind (kindOf_kind F.kok e (by decide)) hn (hm x cv e hs' hv) (k cv hv hs)
  · rename_i e
    obtain ⟨c, u, h1, h2, _, h3⟩ := F.cel x (.inl e)
    exact wpAny_loadName_cell F.kind (kindOf_kind F.kok e (by decide)) h1 (h3 cv hs' hv ▸ h2) (k cv hv hs)
  · rename_i e
    obtain ⟨c, u, h1, h2, _, h3⟩ := F.cel x (.inr e)
    rcases F.kok x _ e with e' | ⟨_, e'⟩
    · exact wpAny_loadName_free F.kind e' h1 (h3 cv hs' hv ▸ h2) (k cv hv hs) hc'
    · exact wpAny_loadName_cell F.kind e' h1 (h3 cv hs' hv ▸ h2) (k cv hv hs)
  · cases hk

theorem iterS_any (ih : Snd prog w T hb n) (LF : Leafs prog w) (rm : Room A n) (F : Frame prog w hb sc env pb nb lent vars val s.heap) {target e : Expr} {its : List PV} (hv : (xE T n sc vars e).bind itemsS = some its)
    (E : Value → Shared → Prop) (Q : Value → Shared → Prop) (q : ∀ it s', Pack prog w A s target (forPubs sc env pb nb vars val).p (forPubs sc env pb nb vars val).nw its it s' → Q it s') : wpAny (model prog w) A (eval e env) (fun cv s₁ => wpAny (model prog w) A (pyIter cv) Q E s₁) E s := by
  obtain ⟨⟨p, v⟩, ha, hv⟩ := bnd hv
  cases p with
  | false => exact noS hv
  | true => exact ih.e A sc env vars _ s _ true v rm ha F.reads F.fresh E _ fun cv h1 tk1 st1 r1 => LF.iterV (pub := forPubs sc env pb nb vars val) rm (a := (true, v)) hv (oks_for (r1 _ .P)) fun it s' pk => q it s' (pk.back st1)
theorem step_iterS (ih : Snd prog w T hb n) (G : Glob T hb) (LF : Leafs prog w) : IterSOk prog w T hb (n + 1) := by
  intro A sc env pb nb lent vars val s target tup e its rm hv htup F E Q q
  have rm' := rm.pred
  have q' : ∀ it s', Pack prog w A s target (forPubs sc env pb nb vars val).p (forPubs sc env pb nb vars val).nw its it s' → Q it s' := q
  have hv : zIterSN (zRec T n) sc vars tup e (nameOf e) = some its := hv
  cases hn : nameOf e with
  | some x =>
    rw [hn] at hv
    obtain ⟨xq, rfl⟩ := nameOf_eq hn
    obtain ⟨hk, hv⟩ := onlyIf hv
    obtain ⟨hk1, hk2⟩ := two hk
    obtain ⟨sl, hx, hv⟩ := bnd hv
    obtain ⟨a, ha, hv⟩ := bnd hv
    exact F.name hk1 (notB hk2) hx fun cv hcv hs => LF.iterV rm' hv (nameS_rep F ha hs) q'
  | none =>
  rw [hn] at hv
  have hv : zIterSK (zRec T n) sc vars tup e (iterKind e) = some its := hv
  rcases iterKind_is (e := e) with ⟨f, fq, args, p, he, hk⟩ | ⟨d, dq, name, apos, pos, he, hk⟩ | hk
  · rw [hk] at hv
    obtain ⟨hg, hv⟩ := onlyIf hv
    have hv : (bif isRng (biOf f) then (xEs T n sc vars args).bind (fun as => evalRange (as.map (·.2))) else (xE T n sc vars e).bind itemsS) = some its := hv
    cases hr : isRng (biOf f) with
    | true =>
      rw [hr] at hv
      obtain ⟨as, has, hv⟩ := bnd hv
      rw [he]
      exact name_call ih G rm' F.reads F.fresh hg (isRng_eq hr) has fun cs h1 tk1 st1 vr => LF.iterRange (pub := forPubs sc env pb nb vars val) rm' hv (vr.all (q := false) (by simp) _ .T) fun it s' pk => q' it s' (pk.back st1)
    | false =>
      rw [hr] at hv
      exact iterS_any ih LF rm' F hv E Q q'
  · rw [hk] at hv
    obtain ⟨hk, hv⟩ := onlyIf hv
    obtain ⟨hk, hk2⟩ := two hk
    obtain ⟨hline, hk1⟩ := two hk
    obtain ⟨sl, hx, hv⟩ := bnd hv
    obtain ⟨a, ha, hv⟩ := bnd hv
    rw [he]
    refine meth_call (n := 1) (sc := sc) (vars := vars) (T := T) rfl hline rfl (by decide) (F.name hk1 (notB hk2) hx fun cv hcv hs => ?_)
    obtain ⟨T', id, x1, x2, x3, x4, x5, x6⟩ := LF.view (target := target) (E := E) (Q := Q) rm' hv htup (nameS_rep F ha hs) q'
    exact ⟨T', id, x1, x2, x3, x4, x5, wpAny_items_nil x6⟩
  · rw [hk] at hv
    exact iterS_any ih LF rm' F hv E Q q'
end
end Mine

namespace Mine
open PySem PySem.Calls PyProof.Rows PySem.W PySem.SeqAt

section
variable {prog : Program} {w : World} {T : Tab} {hb h h₀ h' : Heap} {n : Nat} {A : Around} {sc : Scope} {env : Env} {vars : Vars} {pub : Pubs} {pb nb : Addr → Prop} {lent : Addr} {val : Str → Option Value} {s : Shared} {p : Bool} {v : PV}

theorem one_arg {x : Expr} {f : Value} {pos : Pos} {r} {E : Value → Shared → Prop} {Q : Args → Shared → Prop} (hx : xE T n sc vars x = some r) (h : wpAny (model prog w) A (eval x env) (fun c s₁ => Q ⟨[c], []⟩ s₁) E s) :
    (backTo pos (starEach [x] env)).any (·.1) = false ∧ wpAny (model prog w) A (evalArgs f true (backTo pos (starEach [x] env)) []) Q E s := by
  rw [star_of hx [] env]
  exact ⟨rfl, Calls.evalArgs_plain (Calls.spliced_cons (wpAny_mono h (fun c s₁ h₁ => Calls.spliced_nil h₁) fun _ _ e => e))⟩
theorem two_args {x y : Expr} {f : Value} {pos : Pos} {r} {E : Value → Shared → Prop} {Q : Args → Shared → Prop} (hx : xE T n sc vars x = some r) (hy : starEach [y] env = [(false, eval y env)])
    (h : wpAny (model prog w) A (eval x env) (fun c s₁ => wpAny (model prog w) A (eval y env) (fun d s₂ => Q ⟨[c, d], []⟩ s₂) E s₁) E s) :
    (backTo pos (starEach [x, y] env)).any (·.1) = false ∧ wpAny (model prog w) A (evalArgs f true (backTo pos (starEach [x, y] env)) []) Q E s := by
  rw [star_of hx [y] env, hy]
  exact ⟨rfl, Calls.evalArgs_plain (Calls.spliced_cons (wpAny_mono h (fun c s₁ h₁ => Calls.spliced_cons (wpAny_mono h₁ (fun d s₂ h₂ => Calls.spliced_nil h₂) fun _ _ e => e)) fun _ _ e => e))⟩

theorem bi_any (ih : Snd prog w T hb n) (G : Glob T hb) (LF : Leafs prog w) (rm : Room A n) (R : Reads prog w hb sc env pub vars s.heap) (F : ∀ b, s.heap.get? b = none → pub.p b) {b : BI} {x : Expr} {v : PV} (hv : zBIo (zRec T n) sc vars b x = some v) (pos : Pos) :
    Gets prog w A s (callWith pos (biVal b) [] (backTo pos (starEach [x] env)) []) (Oks true pub) v := fun E Q q => by
  obtain ⟨a, ha, hr⟩ := bnd hv
  obtain ⟨hp, ha'⟩ := one_arg (prog := prog) (w := w) (A := A) (s := s) (f := biVal b) (pos := pos) (E := E) (Q := fun a s₁ => wpAny (model prog w) A (call (biVal b) ([] ++ a.pos) a.kw) Q E s₁) ha
    (ih.e A sc env vars pub s x a.1 a.2 rm ha R F E _ fun c1 h1 tk1 st1 r1 => LF.biV (s := { s with heap := h1, toks := tk1 }) rm (G.main (R.stays st1).base) hr (fresh_stays F st1) r1 E Q fun cv h2 tk2 st2 r2 => q cv h2 tk2 (stays_trans st1 st2) r2)
  exact call_bi hp ha'
theorem bi_two (ih : Snd prog w T hb n) (LF : Leafs prog w) (rm : Room A n) (R : Reads prog w hb sc env pub vars s.heap) (F : ∀ b, s.heap.get? b = none → pub.p b) {b : BI} {x y : Expr} {v : PV} (hv : zBI2 (zRec T n) sc vars b x y = some v) (pos : Pos) :
    Gets prog w A s (callWith pos (biVal b) [] (backTo pos (starEach [x, y] env)) []) (Oks true pub) v := fun E Q q => by
  obtain ⟨a, ha, hv⟩ := bnd hv
  obtain ⟨c, hc, hr⟩ := bnd hv
  obtain ⟨hp, ha'⟩ := two_args (prog := prog) (w := w) (A := A) (s := s) (f := biVal b) (pos := pos) (E := E) (Q := fun a s₁ => wpAny (model prog w) A (call (biVal b) ([] ++ a.pos) a.kw) Q E s₁) ha (star_of hc [] env)
    (ih.e A sc env vars pub s x a.1 a.2 rm ha R F E _ fun c1 h1 tk1 st1 r1 => ih.e A sc env vars pub { s with heap := h1, toks := tk1 } y c.1 c.2 rm hc (R.stays st1) (fresh_stays F st1) E _ fun c2 h2 tk2 st2 r2 =>
      LF.bi2 (s := { s with heap := h2, toks := tk2 }) rm hr ((r1 _ .T).stays st2 fun _ x => x) (r2 _ .T) E Q fun cv h3 tk3 st3 r3 => q cv h3 tk3 (stays_trans (stays_trans st1 st2) st3) r3)
  exact call_bi hp ha'
theorem bi_isi (ih : Snd prog w T hb n) (G : Glob T hb) (LF : Leafs prog w) (rm : Room A n) (R : Reads prog w hb sc env pub vars s.heap) (F : ∀ b, s.heap.get? b = none → pub.p b) {x : Expr} {c : Str} {cq : Pos} {v : PV} (hv : zIsi (zRec T n) sc vars c x = some v) (pos : Pos) :
    Gets prog w A s (callWith pos (biVal .isinstance) [] (backTo pos (starEach [x, .Name c cq] env)) []) (Oks true pub) v := fun E Q q => by
  obtain ⟨a, ha, hv⟩ := bnd hv
  obtain ⟨hc, hr⟩ := onlyIf hv
  obtain ⟨hc1, hc2⟩ := two hc
  have hbt : biOf c = some .tuple := by rw [strEq_iff.mp hc1]; decide +kernel
  obtain ⟨hp, ha'⟩ := two_args (prog := prog) (w := w) (A := A) (s := s) (f := biVal .isinstance) (pos := pos) (E := E) (y := .Name c cq) (Q := fun a s₁ => wpAny (model prog w) A (call (biVal .isinstance) ([] ++ a.pos) a.kw) Q E s₁) ha rfl
    (ih.e A sc env vars pub s x a.1 a.2 rm ha R F E _ fun c1 h1 tk1 st1 r1 => load_bi G (R.stays st1) hc2 hbt (by
      show wpAny (model prog w) A (call (.builtin "isinstance") [c1, .type "tuple"]) Q E { s with heap := h1, toks := tk1 }
      exact LF.isi (s := { s with heap := h1, toks := tk1 }) rm hr (r1 _ .T) E Q fun cv h2 tk2 st2 r2 => q cv h2 tk2 (stays_trans st1 st2) r2))
  exact call_bi hp ha'
theorem step_bi (ih : Snd prog w T hb n) (G : Glob T hb) (LF : Leafs prog w) : BIOk prog w T hb (n + 1) := by
  intro A sc env vars pub s b args v rm hv R F pos
  have rm' := rm.pred
  match args with
  | [] => exact noS hv
  | _ :: _ :: _ :: _ => exact noS hv
  | [x, y] =>
    have hv : (bif isIsi b then zIsiN (zRec T n) sc vars x (nameOf y) else zBI2 (zRec T n) sc vars b x y) = some v := hv
    cases hi : isIsi b with
    | false => rw [hi] at hv; exact bi_two ih LF rm' R F hv pos
    | true =>
      rw [hi] at hv
      obtain rfl := isIsi_eq hi
      cases hn : nameOf y with
      | none => rw [hn] at hv; exact noS hv
      | some c =>
        rw [hn] at hv
        obtain ⟨cq, rfl⟩ := nameOf_eq hn
        exact bi_isi ih G LF rm' R F hv pos
  | [x] =>
    have hv : zBI1 (zRec T n) sc vars b x (iterKind x) = some v := hv
    rcases iterKind_is (e := x) with ⟨f, fq, args, fp, he, hk⟩ | ⟨dn, dq, name, apos, vp, he, hk⟩ | hk
    · rw [hk] at hv
      have hv : (bif isLT b && isG sc f && isRng (biOf f) then zBIr (zRec T n) sc vars b args else zBIo (zRec T n) sc vars b x) = some v := hv
      cases hc : isLT b && isG sc f && isRng (biOf f) with
      | false => rw [hc] at hv; exact bi_any ih G LF rm' R F hv pos
      | true =>
        rw [hc] at hv
        obtain ⟨hc, hc3⟩ := two hc
        obtain ⟨hc1, hc2⟩ := two hc
        obtain ⟨as, has, hv⟩ := bnd hv
        obtain ⟨l, hl, hr⟩ := bnd hv
        subst he
        have star : starEach [Expr.Call (.Name f fq) args [] fp] env = [(false, eval (Expr.Call (.Name f fq) args [] fp) env)] := rfl
        refine fun E Q q => call_bi (by rw [star]; rfl) ?_
        rw [star]
        refine Calls.evalArgs_plain (Calls.spliced_cons (wpAny_mono (name_call ih G rm' R F hc2 (isRng_eq hc3) has (E := E) (Q := fun cv s₁ => wpAny (model prog w) A (call (biVal b) [cv]) Q E s₁) fun cs h1 tk1 st1 vr => ?_) (fun c s₁ h₁ => Calls.spliced_nil h₁) fun _ _ e => e))
        exact LF.ofRange (s := { s with heap := h1, toks := tk1 }) rm' (isLT_eq hc1) hl hr (vr.all (q := false) (by simp) _ .T) (fresh_stays F st1) fun cv h2 tk2 st2 r2 => q cv h2 tk2 (stays_trans st1 st2) r2
    · rw [hk] at hv
      exact bi_any ih G LF rm' R F hv pos
    · rw [hk] at hv
      exact bi_any ih G LF rm' R F hv pos
end
end Mine

namespace Mine
open PySem PySem.Calls PyProof.Rows PySem.W PySem.SeqAt

section
variable {prog : Program} {w : World} {T : Tab} {hb h h₀ h' : Heap} {n : Nat} {A : Around} {sc : Scope} {env : Env} {vars : Vars} {pub : Pubs} {pb nb : Addr → Prop} {lent : Addr} {val : Str → Option Value} {s : Shared} {p : Bool} {v : PV}

theorem atom_imm {n : Nat} {x : PV} (h : isAtom x = true) : immN (n + 1) x = true := by
  cases x <;> first | rfl | cases h
theorem key_imm {k : PV} (h : keyP k = true) : k.imm = true := by
  unfold PV.imm
  cases k with
  | int => rfl
  | str => rfl
  | tup l =>
    have h' : l.all isAtom = true := h
    show l.all (immN 5) = true
    exact List.all_eq_true.mpr fun x hx => atom_imm (List.all_eq_true.mp h' x hx)
  | _ => cases h

theorem new_notSys {h : Heap} (h3 : h.get? mainGlobals ≠ none) : (h.objs.size == sysModules) = false := by
  cases q : h.get? mainGlobals with
  | none => exact absurd q h3
  | some o =>
    have h4 : mainGlobals < h.objs.size := Heap.lt_size q
    have h5 : (3 : Nat) < h.objs.size := h4
    simp only [beq_eq_false_iff_ne, ne_eq]
    intro e
    have h6 : h.objs.size = 1 := e
    (first | lia | omega)
theorem e_dict0 (G : Glob T hb) (R : Reads prog w hb sc env pub vars s.heap) (F : ∀ b, s.heap.get? b = none → pub.p b) {pos : Pos} : Gets prog w A s (eval (.Dict [] [] pos) env) (Oks true pub) (.dict [] []) := fun E Q q =>
  wpAny_Dict_empty (q _ _ s.toks (stays_push _ _) fun ok o => .dictA [] (Oks.fresh F ok o _ (fresh_none _)) (Heap.DictOf.new s.heap) (new_notSys (G.main R.base)) rfl .nil)

theorem e_dict1 (ih : Snd prog w T hb n) (G : Glob T hb) (LF : Leafs prog w) (rm : Room A n) (R : Reads prog w hb sc env pub vars s.heap) (F : ∀ b, s.heap.get? b = none → pub.p b) {k x : Expr} {pos : Pos} {a b r : Bool × PV}
    (ha : xE T n sc vars k = some a) (hb' : xE T n sc vars x = some b) (hp : pair1 a.2 b.2 = some r) : Gets prog w A s (eval (.Dict [some k] [x] pos) env) (Oks r.1 pub) r.2 := by
  unfold pair1 at hp
  split at hp
  · rename_i hc
    simp only [Bool.and_eq_true] at hc
    cases hp
    have st0 := stays_push s.heap { cls := .type "dict", data := .dict #[] }
    refine fun E Q q => wpAny_Dict_any rfl rfl (by simp) (by simp) ?_
    show wpAny _ _ (eval k env >>= fun kv => holding [kv] (do let y ← eval x env; standAt pos; pure y) >>= fun vv => holding [kv, vv] (pure []) >>= fun l => pure ((kv, vv) :: l)) _ _ _
    refine wpAny_bind (ih.e A sc env vars pub _ k a.1 a.2 rm ha (R.stays st0) (fresh_stays F st0) E _ fun c1 h1 tk1 st1 r1 => ?_)
    refine wpAny_bind (wpAny_holding (wpAny_bind (ih.e A sc env vars pub { s with heap := h1, toks := tk1 } x b.1 b.2 rm hb' ((R.stays st0).stays st1) (fresh_stays (fresh_stays F st0) st1) E _ fun c2 h2 tk2 st2 r2 => wpAny_bind (wpAny_standAt (wpAny_pure ?_)))))
    refine wpAny_bind (wpAny_holding (wpAny_pure (wpAny_pure ?_)))
    have hd0 : VRep prog w (s.heap.push { cls := .type "dict", data := .dict #[] }) (fun b => b = s.heap.objs.size) (.dict [] []) (.ref s.heap.objs.size) := .dictA [] rfl (Heap.DictOf.new s.heap) (new_notSys (G.main R.base)) rfl .nil
    have hd : VRep prog w h2 (fun b => b = s.heap.objs.size) (.dict [] []) (.ref s.heap.objs.size) := hd0.stays (stays_trans st1 st2) fun _ x => x
    unfold storeAll
    rw [List.forIn_cons]
    refine wpAny_bind (wpAny_bind (LF.put (s := { s with heap := h2, toks := tk2 }) (ks' := [a.2]) (vs' := [b.2]) rm hc.1 hc.2 rfl rfl rfl hd ((r1 _ .T).stays st2 fun _ x => x) (r2 _ .T) fun h3 tk3 r3 hs => wpAny_pure ?_).1)
    dsimp only
    rw [List.forIn_nil]
    refine wpAny_pure (q _ h3 tk3 (fun y o e => ?_) fun ok o => r3.weaken fun y e => ?_)
    · have : y ≠ s.heap.objs.size := by rintro rfl; rw [fresh_none] at e; cases e
      exact (hs.2 y this).trans (st2 y o (st1 y o (st0 y o e)))
    · subst e; exact Oks.fresh F ok o _ (fresh_none _)
  · cases hp

theorem e_meth1 (ih : Snd prog w T hb n) (LF : Leafs prog w) (rm : Room A n) (R : Reads prog w hb sc env pub vars s.heap) (F : ∀ b, s.heap.get? b = none → pub.p b) {o x : Expr} {name : Str} {apos pos : Pos} {a b : Bool × PV} {r : PV}
    (hpl : plainBase o = true) (hline : (apos.endLine == pos.line) = true) (ha : xE T n sc vars o = some a) (hb' : xE T n sc vars x = some b) (hr : meth1 name a.2 b.2 = some r) :
    Gets prog w A s (eval (.Call (.Attribute o name apos) [x] [] pos) env) (Oks true pub) r := fun E Q q => by
  have hes : xEs T (n + 2) sc vars [x] = some [b] ∨ True := .inr trivial
  obtain ⟨hp, _⟩ := one_arg (prog := prog) (w := w) (A := A) (s := s) (f := .none) (pos := pos) (E := fun _ _ => True) (Q := fun _ _ => True) hb' (ih.e A sc env vars pub s x b.1 b.2 rm hb' R F _ _ fun _ _ _ _ _ => trivial)
  refine wpAny_Call_method_late (by cases o <;> first | rfl | cases hpl) ?_ hline rfl ?_
  · have : (backTo pos (starEach [x] env)).all (fun x => !x.1) = true := by
      rw [List.all_eq_not_any_not]; simp only [Bool.not_not]; rw [hp]; rfl
    exact few_args this (show 1 < 30 by decide)
  · refine ih.e A sc env vars pub s o a.1 a.2 rm ha R F E _ fun c1 h1 tk1 st1 r1 => ?_
    obtain ⟨T', id, x1, x2, x3, x4, x5, x6⟩ := LF.meth1 (A := A) (s := { s with heap := h1, toks := tk1 }) (pub := pub) rm hr (r1 _ .T)
    refine ⟨T', id, x1, x2, x3, x4, x5, Calls.callWith_builtin hp ?_⟩
    exact (one_arg (n := n) (sc := sc) (vars := vars) (T := T) (f := .builtin id) (pos := pos) (Q := fun a s₁ => wpAny (model prog w) A (call (.builtin id) ([c1] ++ a.pos) a.kw) Q E s₁) hb' (ih.e A sc env vars pub { s with heap := h1, toks := tk1 } x b.1 b.2 rm hb' (R.stays st1) (fresh_stays F st1) E _ fun c2 h2 tk2 st2 r2 =>
      x6 h2 tk2 c2 st2 (r2 _ .T) E Q fun cv h3 tk3 st3 r3 => q cv h3 tk3 (stays_trans (stays_trans st1 st2) st3) r3)).2


theorem args_rep {vs : List (Bool × PV)} {cs : List Value} (r : VsRep prog w h pub vs cs) : ArgsRep prog w h pub (vs.map fun a => slotOf a.1 a.2) cs := by
  induction r with
  | nil => exact .nil
  | @cons p v cv l cs a _ ih =>
    refine .cons ⟨?_, a _ .T, fun e => ?_⟩ ih
    · show ownM (if (p || v.imm) = true then Mode.P else Mode.B) = false
      split <;> rfl
    · have e' : (if (p || v.imm) = true then Mode.P else Mode.B) = .P := e
      split at e'
      · rename_i h
        simp only [Bool.or_eq_true] at h
        rcases h with h | h
        · exact a _ (.inr (.inr ⟨h, rfl⟩))
        · exact imm_any h (a _ .T)
      · cases e'

theorem e_fn (ih : Snd prog w T hb n) (G : Glob T hb) (rm : Room A n) (R : Reads prog w hb sc env pub vars s.heap) (F : ∀ b, s.heap.get? b = none → pub.p b) {f : Str} {q p : Pos} {args : List Expr} {fn : Fn} {vs : List (Bool × PV)} {r : PV}
    (hg : isG sc f = true) (hf : tabLook f T = some fn) (has : xEs T n sc vars args = some vs) (hr : xCall T n fn (vs.map fun a => slotOf a.1 a.2) = some r) :
    Gets prog w A s (eval (.Call (.Name f q) args [] p) env) (Oks true pub) r := fun E Q k => by
  rw [arm_eval_Call_Name']
  refine wpAny_bind (load_fn G R hg hf fun a fa => ?_)
  show wpAny _ _ (callWith p (.ref a) [] (backTo p (starEach args env)) []) _ _ _
  obtain ⟨o, fd, ho, hd, _⟩ := fa.fd
  refine Calls.callWith_function (o := o) (fd := fd) (args_go has (ih.es A sc env vars pub s args vs rm has R F p E _ fun cs h1 tk1 st1 vr => ⟨⟨st1 _ _ (R.base _ _ ho), hd⟩, ?_⟩))
  exact ih.call A fn _ r a { s with heap := h1, toks := tk1 } cs pub rm hr ⟨f, hf⟩ fa (stays_trans R.base st1) (args_rep vr) (fresh_stays F st1) E Q fun cv h2 tk2 st2 r2 => k cv h2 tk2 (stays_trans st1 st2) r2

theorem e_un (ih : Snd prog w T hb n) (rm : Room A n) (R : Reads prog w hb sc env pub vars s.heap) (F : ∀ b, s.heap.get? b = none → pub.p b) {op : UnaryOp} {x : Expr} {pos : Pos} (hv : zUn (zRec T n) sc vars op x = some (p, v)) : Gets prog w A s (eval (.UnaryOp op x pos) env) (Oks p pub) v := by
  cases op with
  | USub =>
    obtain ⟨a, ha, hv⟩ := bnd (show (xE T n sc vars x).bind (fun a => (negP a.2).bind fun v => some (true, v)) = some (p, v) from hv)
    obtain ⟨u, hu, hv⟩ := bnd hv
    cases hv
    exact e_neg ih rm R F ha hu
  | _ => exact noS hv
theorem e_dict (ih : Snd prog w T hb n) (G : Glob T hb) (LF : Leafs prog w) (rm : Room A n) (R : Reads prog w hb sc env pub vars s.heap) (F : ∀ b, s.heap.get? b = none → pub.p b) {ks : List (Option Expr)} {vs : List Expr} {pos : Pos} (hv : zDict (zRec T n) sc vars ks vs = some (p, v)) : Gets prog w A s (eval (.Dict ks vs pos) env) (Oks p pub) v := by
  match ks, vs with
  | [], [] => cases (show some (true, PV.dict [] []) = some (p, v) from hv); exact e_dict0 G R F
  | [], _ :: _ => exact noS hv
  | none :: _, _ => exact noS hv
  | some _ :: _ :: _, _ => exact noS hv
  | [some _], [] => exact noS hv
  | [some _], _ :: _ :: _ => exact noS hv
  | [some k], [y] =>
    obtain ⟨a, ha, hv⟩ := bnd (show (xE T n sc vars k).bind (fun a => (xE T n sc vars y).bind fun b => pair1 a.2 b.2) = some (p, v) from hv)
    obtain ⟨b, hb', hv⟩ := bnd hv
    exact e_dict1 ih G LF rm R F ha hb' hv
theorem comp_is {elt : Expr} {gens : List Comprehension} {csc : Scope} {a : Bool × PV} (h : zComp (zRec T n) sc vars elt gens csc = some a) :
    ∃ t it ifs rest items r, gens = ⟨t, it, ifs, 0⟩ :: rest ∧ compOk sc csc = true ∧ xIter T n sc vars (isTupT t) it = some items ∧ xComp T n csc (within csc.names vars) t ifs rest elt items = some r ∧ szOk r.1.length = true ∧ a = (true, .list r.1) := by
  match gens with
  | [] => exact noS h
  | ⟨t, it, ifs, k⟩ :: rest =>
    obtain ⟨hz, h⟩ := onlyIf (show (bif isZ k then zComp1 (zRec T n) sc vars elt csc t it ifs rest else none) = some a from h)
    obtain rfl := isZ_eq hz
    obtain ⟨hok, h⟩ := onlyIf h
    obtain ⟨items, hi, h⟩ := bnd h
    obtain ⟨r, hr, h⟩ := bnd h
    obtain ⟨hz, h⟩ := onlyIf h
    exact ⟨t, it, ifs, rest, items, r, rfl, hok, hi, hr, hz, (Option.some.inj h).symm⟩
theorem e_slice (ih : Snd prog w T hb n) (rm : Room A n) (R : Reads prog w hb sc env pub vars s.heap) (F : ∀ b, s.heap.get? b = none → pub.p b) {y : Expr} {lo hi st : Option Expr} {sp pos : Pos} (hv : zSlice (zRec T n) sc vars y lo hi st = some (p, v)) : Gets prog w A s (eval (.Subscript y (.Slice lo hi st sp) pos) env) (Oks p pub) v := by
  cases st with
  | none =>
    exact noS hv
  | some st =>
    cases lo with
    | some => exact noS hv
    | none =>
      cases hi with
      | some => exact noS hv
      | none =>
        obtain ⟨a, ha, hv⟩ := bnd (show (xE T n sc vars y).bind (fun a => (xE T n sc vars st).bind fun k => revP a k.2) = some (p, v) from hv)
        obtain ⟨k, hk, hv⟩ := bnd hv
        exact e_rev ih rm R F ha hk hv
theorem e_meth (ih : Snd prog w T hb n) (LF : Leafs prog w) (rm : Room A n) (R : Reads prog w hb sc env pub vars s.heap) (F : ∀ b, s.heap.get? b = none → pub.p b) {o : Expr} {name : Str} {apos pos : Pos} {args : List Expr} (hv : zMeth (zRec T n) sc vars o name apos pos args = some (p, v)) :
    Gets prog w A s (eval (.Call (.Attribute o name apos) args [] pos) env) (Oks p pub) v := by
  match args with
  | [] => exact noS hv
  | _ :: _ :: _ :: _ => exact noS hv
  | [x] =>
    obtain ⟨hc, hv⟩ := onlyIf (show (bif plainBase o && apos.endLine == pos.line then zMeth1 (zRec T n) sc vars o x name else none) = some (p, v) from hv)
    obtain ⟨hc1, hc2⟩ := two hc
    obtain ⟨a, ha, hv⟩ := bnd hv
    obtain ⟨b, hb', hv⟩ := bnd hv
    obtain ⟨u, hu, hv⟩ := bnd hv
    cases hv
    exact e_meth1 ih LF rm R F hc1 hc2 ha hb' hu
  | [_, _] => exact noS hv
theorem e_call (ih : Snd prog w T hb n) (G : Glob T hb) (LF : Leafs prog w) (rm : Room A n) (R : Reads prog w hb sc env pub vars s.heap) (F : ∀ b, s.heap.get? b = none → pub.p b) {f : Expr} {args : List Expr} {kw : List Keyword} {pos : Pos} (hv : zCallE T (zRec T n) sc vars f args kw pos = some (p, v)) :
    Gets prog w A s (eval (.Call f args kw pos) env) (Oks p pub) v := by
  cases kw with
  | cons => exact noS hv
  | nil =>
  have hv : zCallA T (zRec T n) sc vars (attrOf f) f args pos = some (p, v) := hv
  cases ha : attrOf f with
  | some q =>
    rw [ha] at hv
    obtain rfl := attrOf_eq ha
    exact e_meth ih LF rm R F hv
  | none =>
    rw [ha] at hv
    have hv : zCallN T (zRec T n) sc vars (nameOf f) args = some (p, v) := hv
    cases hn : nameOf f with
    | none => rw [hn] at hv; exact noS hv
    | some g =>
      rw [hn] at hv
      obtain ⟨fq, rfl⟩ := nameOf_eq hn
      obtain ⟨hg, hv⟩ := onlyIf hv
      have hv : zFnK T (zRec T n) sc vars g args (biOf g) = some (p, v) := hv
      cases hbi : biOf g with
      | some b =>
        rw [hbi] at hv
        obtain ⟨u, hu, hv⟩ := bnd hv
        cases hv
        refine fun E Q q => ?_
        rw [arm_eval_Call_Name']
        refine wpAny_bind (load_bi G R hg hbi ?_)
        exact ih.bi A sc env vars pub s b _ v rm hu R F _ E Q q
      | none =>
        rw [hbi] at hv
        obtain ⟨fn, hf, hv⟩ := bnd hv
        obtain ⟨as, has, hv⟩ := bnd hv
        obtain ⟨_, hv⟩ := unlessIf hv
        obtain ⟨u, hu, hv⟩ := bnd hv
        cases hv
        exact e_fn ih G rm R F hg hf has hu
theorem step_e (ih : Snd prog w T hb n) (G : Glob T hb) (LF : Leafs prog w) : EOk prog w T hb (n + 1) := by
  intro A sc env vars pub s e p v rm hv R F
  have rm' := rm.pred
  cases e with
  | Constant c _ _ =>
    obtain ⟨u, hu, e⟩ := bnd (show (constV c).bind (fun v => some (true, v)) = some (p, v) from hv)
    cases e
    exact e_const hu
  | Name x _ =>
    obtain ⟨ho, hv⟩ := unlessIf (show (bif oddName x then none else readP (kindIn x sc.names) (look x vars)) = some (p, v) from hv)
    exact e_name R (by rw [ho]; exact nofun) hv
  | BinOp l op r _ =>
    obtain ⟨a, ha, hv⟩ := bnd (show (xE T n sc vars l).bind (fun a => (xE T n sc vars r).bind fun b => (evalBin op a.2 b.2).bind fun v => some ((a.1 || okItems a.2) && (b.1 || okItems b.2), v)) = some (p, v) from hv)
    obtain ⟨b, hb', hv⟩ := bnd hv
    obtain ⟨u, hu, hv⟩ := bnd hv
    cases hv
    exact e_bin ih rm' R F ha hb' hu
  | UnaryOp op x _ => exact e_un ih rm' R F hv
  | BoolOp op es _ =>
    obtain ⟨b, hb', hv⟩ := bnd (show (xBools T n sc vars op es).bind (fun b => some (true, PV.bool b)) = some (p, v) from hv)
    cases hv
    exact ih.bools A sc env vars pub s _ _ b rm' hb' R F _
  | IfExp t a b _ =>
    obtain ⟨c, hc, hv⟩ := bnd (show (xT T n sc vars t).bind (fun c => bif c then xE T n sc vars a else xE T n sc vars b) = some (p, v) from hv)
    exact e_ifexp ih rm' R F hc hv
  | Compare l ops rs _ =>
    obtain ⟨hm, hv⟩ := unlessIf (show (bif lastMarks ops rs then none else (xE T n sc vars l).bind fun a => (xChain T n sc vars a.2 ops rs).bind fun b => some (true, PV.bool b)) = some (p, v) from hv)
    obtain ⟨a, ha, hv⟩ := bnd hv
    obtain ⟨b, hb', hv⟩ := bnd hv
    cases hv
    exact e_cmp ih rm' R F (by rw [hm]; exact nofun) ha hb'
  | Tuple es _ _ =>
    obtain ⟨vs, hvs, hv⟩ := bnd (show (xEs T n sc vars es).bind tupP = some (p, v) from hv)
    exact e_tuple ih rm' R F hvs hv
  | List es _ =>
    obtain ⟨vs, hvs, hv⟩ := bnd (show (xEs T n sc vars es).bind listP = some (p, v) from hv)
    exact e_list ih rm' R F hvs hv
  | Dict ks vs _ => exact e_dict ih G LF rm' R F hv
  | ListComp elt gens scope _ =>
    obtain ⟨t, it, ifs, rest, items, r, rfl, hok, hi, hr, hz, e⟩ := comp_is (show zComp (zRec T n) sc vars elt gens scope = some (p, v) from hv)
    cases e
    exact e_comp ih rm' R F hok hi hr hz
  | Subscript y i _ =>
    have hv : zSubK (zRec T n) sc vars y i (sliceOf i) = some (p, v) := hv
    cases hs : sliceOf i with
    | some q =>
      rw [hs] at hv
      obtain ⟨sp, rfl⟩ := sliceOf_eq hs
      exact e_slice ih rm' R F hv
    | none =>
      rw [hs] at hv
      obtain ⟨a, ha, hv⟩ := bnd hv
      obtain ⟨k, hk, hv⟩ := bnd hv
      obtain ⟨u, hu, hv⟩ := bnd hv
      cases hv
      exact e_sub ih rm' R F ha hk hu
  | Call f args kw pos => exact e_call ih G LF rm' R F hv
  | _ => exact noS hv
end
end Mine

namespace Mine
open PySem PySem.Calls PyProof.Rows PySem.W PySem.SeqAt

section
variable {prog : Program} {w : World} {T : Tab} {hb h h₀ h' : Heap} {n : Nat} {A : Around} {sc : Scope} {env : Env} {vars : Vars} {pub : Pubs} {pb nb : Addr → Prop} {lent : Addr} {val : Str → Option Value} {s : Shared} {p : Bool} {v : PV}

theorem nameOk_parts {x : Str} (h : nameOk sc x = true) : readK sc x = true ∧ oddName x = false := by
  unfold nameOk at h
  simp only [Bool.and_eq_true, Bool.not_eq_true'] at h
  exact h

theorem cont_notTup {v : PV} {a : Addr} {ok : Addr → Prop} (hc : isCont v = true) (r : VRep prog w h ok v (.ref a)) : ∀ o, h.get? a = some o → ¬ isTupObj o := fun o e t => by
  cases r with
  | list _ hl => exact list_notTup hl o e t
  | dictT _ _ hd =>
    obtain ⟨ob, _, _, ho, hx, _⟩ := hd
    rw [e] at ho; cases ho
    have := t.1; rw [hx.1] at this; simp at this
  | dictA _ _ hd =>
    obtain ⟨ob, _, _, ho, hx, _⟩ := hd
    rw [e] at ho; cases ho
    have := t.1; rw [hx.1] at this; simp at this
  | _ => cases hc

theorem Frame.upd {x : Str} {md : Mode} {v v' : PV} {a : Addr} (F : Frame prog w hb sc env pb nb lent vars val h) (hx : look x vars = some (md, v)) (hm : ownM md = true) (ha : val x = some (.ref a)) (hc : isCont v = true)
    (k : ∀ b o, h.get? b = some o → b ≠ a → h'.get? b = some o) (ex : ∀ b, h'.get? b = none → h.get? b = none) (hi : okItems v' = true) (r : VRep prog w h' (fun b => b = a) v' (.ref a)) :
    Frame prog w hb sc env pb nb lent (setV x (md, v') vars) val h' ∧ Adv (Wr sc env vars val) h (Wr sc env (setV x (md, v') vars) val) h' := by
  obtain ⟨cv, hcv, hs⟩ := F.slots x md v hx
  rw [ha] at hcv; cases hcv
  obtain ⟨_, a', e, r0, hna⟩ := hs.own hm
  cases e
  have hca : Cont h a := r0.self_cont (by obtain ⟨i, _⟩ := hs.own hm; exact i) (by rintro l rfl; cases hc)
  have haW : Wr sc env vars val a := .inr (.inr ⟨x, md, v, hx, hm, ha⟩)
  have hwr : ∀ b, Wr sc env (setV x (md, v') vars) val b → Wr sc env vars val b := by
    rintro b (e | e | ⟨y, my, vy, hy, hmy, hv⟩)
    · exact .inl e
    · exact .inr (.inl e)
    · by_cases hyx : y = x
      · subst hyx; rw [ha] at hv; cases hv; exact haW
      · rw [look_isSome hyx] at hy; exact .inr (.inr ⟨y, my, vy, hy, hmy, hv⟩)
  have hnt := cont_notTup hc r0
  have kp : Kp (fun b => b = a) h h' := fun b o e q => by
    by_cases hb' : b = a
    · subst hb'; exact q.elim (fun n => (n rfl).elim) fun t => (hnt o e t).elim
    · exact k b o e hb'
  have hL : env.locals ≠ a := fun e => F.sepL x md v hx hm (by rw [ha, e])
  have hsome : ∀ y, (look y (setV x (md, v') vars)).isSome = true → (look y vars).isSome = true := fun y e => by
    by_cases hyx : y = x
    · subst hyx; rw [hx]; rfl
    · rwa [look_isSome hyx] at e
  have hold : ∀ y my vy, look y (setV x (md, v') vars) = some (my, vy) → ∃ vy', look y vars = some (my, vy') := fun y my vy hy => by
    by_cases hyx : y = x
    · subst hyx; rw [look_setV, if_pos rfl] at hy; cases hy; exact ⟨v, hx⟩
    · rw [look_isSome hyx] at hy; exact ⟨vy, hy⟩
  refine ⟨{
    base := fun b o e => k b o (F.base b o e) (by rintro rfl; rw [F.old _ haW] at e; cases e)
    glob := F.glob
    blt := F.blt
    kind := F.kind
    kok := F.kok
    ns := let ⟨m, hn, q⟩ := F.ns; ⟨m, hn.at' fun o e => k _ o e hL, fun y u h1 h2 h3 => q y u h1 (hsome y h2) h3⟩
    cel := fun y hy => let ⟨c, u, h1, h2, h3, h4⟩ := F.cel y hy; ⟨c, u, h1, cell_at h2 fun o e => k _ o e (by rintro rfl; exact cell_cont h2 hca), h3, fun z q1 q2 => h4 z (hsome y q1) q2⟩
    apart := F.apart
    slots := fun y my vy hy => by
      by_cases hyx : y = x
      · subst hyx
        rw [look_setV, if_pos rfl] at hy; cases hy
        refine ⟨_, ha, ?_⟩
        cases md with
        | O => obtain ⟨_, b, e, _, hp, hn⟩ := hs; cases e; exact ⟨hi, _, rfl, r, hp, hn⟩
        | M => obtain ⟨_, e, _, hn⟩ := hs; cases e; exact ⟨hi, rfl, r, hn⟩
        | P => cases hm
        | B => cases hm
      · rw [look_isSome hyx] at hy
        obtain ⟨cy, h1, h2⟩ := F.slots y my vy hy
        refine ⟨cy, h1, h2.move kp (fun b _ hnb hw => ⟨fun e => hw (by rw [e]; exact haW), hnb, fun q => hw (hwr b q)⟩) fun hmy b e hnb _ => ⟨fun e' => ?_, hnb⟩⟩
        subst e'; subst e
        exact hyx (F.own1 y x my vy md v b hy hmy hx hm h1 ha)
    own1 := fun y z my vy mz vz b hy hmy hz hmz h1 h2 => by
      obtain ⟨vy', hy'⟩ := hold y my vy hy
      obtain ⟨vz', hz'⟩ := hold z mz vz hz
      exact F.own1 y z my vy' mz vz' b hy' hmy hz' hmz h1 h2
    sepL := fun y my vy hy hmy => by
      obtain ⟨vy', hy'⟩ := hold y my vy hy
      exact F.sepL y my vy' hy' hmy
    nbL := F.nbL
    old := fun b e => F.old b (hwr b e)
    pbf := fun b e => F.pbf b (ex b e)
    nbf := fun b e => F.nbf b (ex b e) }, ⟨kp.mono fun b e => by rw [e]; exact haW, fun b e => .inl (ex b e), fun b e => .inl (hwr b e)⟩⟩

theorem After.next {W₀ : Addr → Prop} {vars' : Vars} {val' : Str → Option Value} {tk' : Nat} (F : Frame prog w hb sc env pb nb lent vars' val' h') (a : Adv W₀ s.heap (Wr sc env vars' val') h') : After prog w hb sc env pb nb lent W₀ s (.next vars') .next { s with heap := h', toks := tk' } := ⟨h', tk', rfl, rfl, val', F, a⟩

theorem own_look {d : Str} {s : Mode × PV} {u : PV} (hl : look d vars = some s) (ho : ownV s = some u) : look d vars = some (.O, u) := hl.trans (congrArg some (ownV_eq ho))
theorem ownedName_is {e : Expr} {v : PV} (h : ownedName e vars = some v) : ∃ x q, e = .Name x q ∧ look x vars = some (.O, v) := by
  obtain ⟨x, hn, h⟩ := bnd h
  obtain ⟨s, hl, h⟩ := bnd h
  obtain ⟨q, hq⟩ := nameOf_eq hn
  exact ⟨x, q, hq, own_look hl h⟩
theorem s_ret (ih : Snd prog w T hb n) (rm : Room A n) {e : Expr} {pos : Pos} {r : Res} (F : Frame prog w hb sc env pb nb lent vars val s.heap)
    (hv : zRetK (zRec T n) sc vars e (ownedName e vars) = some r) (E : Value → Shared → Prop) (Q : Flow → Shared → Prop)
    (q : ∀ f s', After prog w hb sc env pb nb lent (Wr sc env vars val) s r f s' → Q f s') : wpAny (model prog w) A (exec (.Return (some e) pos) env) Q E s := by
  refine wpAny_Return_some ?_
  cases ho : ownedName e vars with
  | some v =>
    rw [ho] at hv
    obtain ⟨x, px, rfl, hx⟩ := ownedName_is ho
    obtain ⟨hk, hv⟩ := onlyIf hv
    cases hv
    obtain ⟨k1, k2⟩ := nameOk_parts hk
    refine F.name k1 k2 hx fun cv hcv hs => ?_
    obtain ⟨hi, a, rfl, r, hp, hn⟩ := hs
    exact q _ _ ⟨s.heap, s.toks, rfl, _, rfl, r.weaken fun _ _ => trivial, r.weaken fun b e => e ▸ hp, Kp.refl _ _, fun _ x => .inl x⟩
  | none =>
    rw [ho] at hv
    obtain ⟨⟨p, a⟩, ha, hv⟩ := bnd hv
    obtain ⟨v, hv', hv⟩ := bnd hv
    cases hv
    cases p with
    | false => exact noS hv'
    | true =>
      cases (show some a = some v from hv')
      refine ih.e A sc env vars _ s e true a rm ha F.reads F.fresh E _ fun cv h1 tk1 st1 r1 => ?_
      exact q _ _ ⟨h1, tk1, rfl, cv, rfl, r1 _ .T, VRep.weaken (fun b o => o.1.1) (r1 _ .P), Kp.of_stays st1, fun _ e => .inl (none_of_stays st1 e)⟩

theorem NewSlot.get {s1 : Heap} {md : Mode} {v : PV} {cv : Value} (F : Frame prog w hb sc env pb nb lent vars val h₀) (st : h₀.StaysIn s1) (g : SlotGot prog w h₀ s1 (frPubs sc env pb nb vars val).p md v cv) :
    ∃ nb₀ : Addr → Prop, (∀ a, nb₀ a → nb a) ∧ Frame prog w hb sc env pb nb₀ lent vars val s1 ∧ NewSlot prog w hb s1 pb nb nb₀ (Wr sc env vars val) md v cv ∧ ∀ a, md = .O → cv = .ref a → h₀.get? a = none := by
  rcases g with ⟨rfl, r⟩ | ⟨rfl, hi, a, rfl, r, hn⟩
  · exact ⟨nb, fun _ x => x, F.stays st, .inl ⟨rfl, r⟩, fun a e => by cases e⟩
  · refine ⟨fun b => nb b ∧ b ≠ a, fun _ x => x.1, F.narrow st (fun b x y => ⟨x, fun e => y (e ▸ hn)⟩) fun b e => ⟨F.nbf b (none_of_stays st e), fun q => r.ref_some.some (q ▸ e)⟩, .inr ⟨rfl, hi, a, rfl, r, F.pbf a hn, F.nbf a hn, fun o => o.2 rfl, none_of_stays F.base hn⟩, fun b _ e => by cases e; exact hn⟩

theorem s_assign1 (ih : Snd prog w T hb n) (rm : Room A n) {x : Str} {e : Expr} {px pos : Pos} {sl : Mode × PV} (F : Frame prog w hb sc env pb nb lent vars val s.heap) (hx : ownK sc x = true) (hs : xSlot T n sc vars e = some sl)
    (hsw : swapsWith e (some (.Name x px)) pos.line env = pure false) (E : Value → Shared → Prop) (Q : Flow → Shared → Prop)
    (q : ∀ f s', After prog w hb sc env pb nb lent (Wr sc env vars val) s (.next (setV x sl vars)) f s' → Q f s') : wpAny (model prog w) A (exec (.Assign [.Name x px] e pos) env) Q E s := by
  obtain ⟨md, v⟩ := sl
  refine wpAny_Assign_Name (ih.slot A sc env vars _ s e md v rm hs F.reads F.fresh E _ fun cv h1 tk1 st1 g => ?_) hsw
  obtain ⟨nb₀, h2, F1, hsl, hfr⟩ := NewSlot.get F st1 g
  refine F1.store (s := { s with heap := h1, toks := tk1 }) hx h2 hsl fun h3 tk3 F3 k3 ex3 => q _ _ (.next F3 ⟨(Kp.of_stays st1).trans k3, fun a e => .inl (none_of_stays st1 (ex3 a e)), fun a e => ?_⟩)
  exact (Frame.set_wr hsl a e).imp id fun o => hfr a o.1 o.2

theorem putD2_ok {k v : PV} : ∀ {ks vs : List PV} {r : List PV × List PV}, PV.imms ks = true → PV.imms vs = true → k.imm = true → v.imm = true → putD2 k v ks vs = some r → PV.imms r.1 = true ∧ PV.imms r.2 = true
  | [], vs, r, _, _, hk, hv, e => by
    cases (show some ([k], [v]) = some r from e)
    exact ⟨Bool.and_eq_true_iff.mpr ⟨hk, rfl⟩, Bool.and_eq_true_iff.mpr ⟨hv, rfl⟩⟩
  | y :: ks, vs, r, h1, h2, hk, hv, e => by
    obtain ⟨hy, h1⟩ := two (show (y.imm && PV.imms ks) = true from h1)
    have ht : PV.imms vs.tail = true := by
      cases vs with
      | nil => rfl
      | cons z zs => exact (two h2).2
    have e : (match PV.eq y k with | some true => some (y :: ks, v :: vs.tail) | some false => (putD2 k v ks vs.tail).map fun p => (y :: p.1, vs.head?.toList ++ p.2) | none => none) = some r := e
    cases hq : PV.eq y k with
    | none => rw [hq] at e; exact noS e
    | some c =>
      rw [hq] at e
      cases c with
      | true => cases e; exact ⟨Bool.and_eq_true_iff.mpr ⟨hy, h1⟩, Bool.and_eq_true_iff.mpr ⟨hv, ht⟩⟩
      | false =>
        obtain ⟨p, hp, e⟩ := Option.map_eq_some_iff.mp e
        subst e
        obtain ⟨i1, i2⟩ := putD2_ok (ks := ks) h1 ht hk hv hp
        refine ⟨Bool.and_eq_true_iff.mpr ⟨hy, i1⟩, ?_⟩
        cases vs with
        | nil => exact i2
        | cons z zs => exact Bool.and_eq_true_iff.mpr ⟨(two h2).1, i2⟩
theorem put_ok {k v : PV} {ks vs : List PV} {r : List PV × List PV} (hi : okItems (.dict ks vs) = true) (hk : k.imm = true) (hv : v.imm = true) (e : putD2 k v ks vs = some r) : okItems (.dict r.1 r.2) = true := by
  have h := Bool.and_eq_true_iff.mp hi
  obtain ⟨a, b⟩ := putD2_ok h.1 h.2 hk hv e
  exact Bool.and_eq_true_iff.mpr ⟨a, b⟩
theorem s_put (ih : Snd prog w T hb n) (LF : Leafs prog w) (rm : Room A n) {d : Str} {e i : Expr} {dp sp pos : Pos} {a k : Bool × PV} {vars' : Vars} (F : Frame prog w hb sc env pb nb lent vars val s.heap) (hd : nameOk sc d = true)
    (ha : xE T n sc vars e = some a) (hk : xE T n sc vars i = some k) (hv : storeP d k.2 a.2 vars = some vars') (E : Value → Shared → Prop) (Q : Flow → Shared → Prop)
    (q : ∀ f s', After prog w hb sc env pb nb lent (Wr sc env vars val) s (.next vars') f s' → Q f s') : wpAny (model prog w) A (exec (.Assign [.Subscript (.Name d dp) i sp] e pos) env) Q E s := by
  obtain ⟨k1, k2⟩ := nameOk_parts hd
  refine wpAny_Assign_Subscript ?_ (by cases e <;> rfl)
  refine ih.e A sc env vars _ s e a.1 a.2 rm ha F.reads F.fresh E _ fun c1 h1 tk1 st1 r1 => ?_
  have F1 := F.stays st1
  obtain ⟨s0, hl0, hv⟩ := bnd hv
  obtain ⟨u, hou, hv⟩ := bnd hv
  have hx := own_look hl0 hou
  refine F1.name (s := { s with heap := h1, toks := tk1 }) k1 k2 hx fun co hco hs => ?_
  refine ih.e A sc env vars _ { s with heap := h1, toks := tk1 } i k.1 k.2 rm hk F1.reads F1.fresh E _ fun c2 h2 tk2 st2 r2 => ?_
  obtain ⟨hi, x, rfl, r, _, _⟩ := hs
  have r0 : VRep prog w h2 (fun b => b = x) u (.ref x) := r.stays st2 fun _ x => x
  have ra : VRep prog w h2 (fun _ => True) a.2 c1 := (r1 _ .T).stays st2 fun _ x => x
  have fin : ∀ v' h3 tk3, isCont u = true → okItems v' = true → VRep prog w h3 (fun b => b = x) v' (.ref x) → Heap.SameBut x h2 h3 → some (setV d (.O, v') vars) = some vars' → Q .next { s with heap := h3, toks := tk3 } := fun v' h3 tk3 hc hi' r3 hs3 hv => by
    cases hv
    obtain ⟨F3, adv3⟩ := (F1.stays st2).upd (v' := v') hx rfl hco hc (fun b o e ne => (hs3.2 b ne).trans e) (sameBut_ex hs3 r3.ref_some.some) hi' r3
    exact q _ _ (.next F3 ((Adv.stays (stays_trans st1 st2)).trans adv3))
  cases u with
  | dict ks vs =>
    obtain ⟨hc, hv⟩ := onlyIf (show (bif keyP k.2 && a.2.imm && szOk ks.length then (putD2 k.2 a.2 ks vs).bind fun p => some (setV d (.O, .dict p.1 p.2) vars) else none) = some vars' from hv)
    obtain ⟨hc, hc3⟩ := two hc
    obtain ⟨hc1, hc2⟩ := two hc
    obtain ⟨kv, hkv, hv⟩ := bnd hv
    exact (LF.put (A := A) (s := { s with heap := h2, toks := tk2 }) rm hc1 hc2 hc3 hkv hi r0 (r2 _ .T) ra fun h3 tk3 r3 hs3 => fin _ h3 tk3 rfl (put_ok hi (key_imm hc1) hc2 hkv) r3 hs3 hv).2
  | _ => exact noS hv
end
end Mine

namespace Mine
open PySem PySem.Calls PyProof.Rows PySem.W PySem.SeqAt

section
variable {prog : Program} {w : World} {T : Tab} {hb h h₀ h' : Heap} {n : Nat} {A : Around} {sc : Scope} {env : Env} {vars : Vars} {pub : Pubs} {pb nb : Addr → Prop} {lent : Addr} {val : Str → Option Value} {s : Shared} {p : Bool} {v : PV}

theorem s_assignC (ih : Snd prog w T hb n) (rm : Room A n) {x : Str} {elt t it : Expr} {ifs : List Expr} {rest : List Comprehension} {scope : Scope} {cp px pos : Pos} {items : List PV} {r : List PV × Vars} (F : Frame prog w hb sc env pb nb lent vars val s.heap) (hx : ownK sc x = true)
    (hok : compOk sc scope = true) (hi : xIter T n sc vars (isTupT t) it = some items) (hc : xComp T n scope (within scope.names vars) t ifs rest elt items = some r) (hz : szOk r.1.length = true)
    (hsw : swapsWith (.ListComp elt (⟨t, it, ifs, 0⟩ :: rest) scope cp) (some (.Name x px)) pos.line env = pure true) (E : Value → Shared → Prop) (Q : Flow → Shared → Prop)
    (q : ∀ f s', After prog w hb sc env pb nb lent (Wr sc env vars val) s (.next (setV x (.P, .list r.1) vars)) f s' → Q f s') : wpAny (model prog w) A (exec (.Assign [.Name x px] (.ListComp elt (⟨t, it, ifs, 0⟩ :: rest) scope cp) pos) env) Q E s := by
  rw [exec_Assign_Name_used _ _ _ _ hsw]
  refine wpAny_bind (wpAny_standAt (wpAny_bind ?_))
  show wpAny _ A (do let _ ← comprehension (.ListComp elt (⟨t, it, ifs, 0⟩ :: rest) scope cp) scope env (firstIterPos (⟨t, it, ifs, 0⟩ :: rest) cp) (newList []) false (eval it env) (some (assign (.Name x px) env))) _ _ s
  refine wpAny_bind (wpAny_mono (comp_run ih rm (use := some (assign (.Name x px) env)) (Q := fun _ s' => Q .next s') F.reads F.fresh hok hi hc hz fun C D h1 tk1 m st hD hC hm rp => ?_) (fun _ s' hq => wpAny_pure (wpAny_pure hq)) fun _ _ e => e)
  show wpAny _ A (assign (.Name x px) env (.ref D)) _ _ _
  have hC1 : h1.get? C ≠ none := (ns_mut hm).some
  have F1 : Frame prog w hb sc env pb (fun a => nb a ∧ a ≠ C) lent vars val h1 := F.narrow st (fun a e ne => ⟨e, fun q => ne (q ▸ hC)⟩) fun a e => ⟨F.nbf a (none_of_stays st e), fun q => hC1 (q ▸ e)⟩
  refine wpAny_assign_Name (F1.storeP (s := { s with heap := h1, toks := tk1 }) hx rp (fun a o => ⟨⟨o.1.1.1, o.1.1.2, o.2⟩, o.1.2⟩) fun h2 tk2 F2 adv2 hw2 => ?_)
  have hm2 : h2.Ns C m := hm.at' fun o e => adv2.kp C o e (.inl fun y => (F1.wr_nb y).2 rfl)
  refine ⟨m, hm2, fun h3 hs3 => ?_⟩
  have kp3 := kp_sameBut hs3 (ns_mut hm2) (ns_notTup hm2)
  have ex3 : ∀ a, h3.get? a = none → a = C ∨ h2.get? a = none := fun a e => by
    by_cases hac : a = C
    · exact .inl hac
    · exact .inr (by rw [← hs3.2 a hac]; exact e)
  have F3 : Frame prog w hb sc env pb nb lent (setV x (.P, .list r.1) vars) (setF val x (.ref D)) h3 := F2.move' kp3 (fun a e => .inr (by subst e; exact fun q => q.2 rfl)) (fun a e => (ex3 a e).elim (fun x => F.pbf a (x ▸ hC)) (F2.pbf a)) (fun a e => by rw [e]; exact none_of_stays F.base hC) (fun a e _ => e.1) fun a e => (ex3 a e).elim (fun x => F.nbf a (x ▸ hC)) fun x => (F2.nbf a x).1
  refine q _ _ (.next F3 ⟨fun a o e c => ?_, fun a e => (ex3 a e).elim (fun x => .inl (x ▸ hC)) fun x => (adv2.ex a x).imp (none_of_stays st) id, fun a e => .inl (hw2 a e)⟩)
  have hac : a ≠ C := by rintro rfl; rw [hC] at e; cases e
  exact (hs3.2 a hac).trans (adv2.kp a o (st a o e) c)

theorem s_augsub (ih : Snd prog w T hb n) (LF : Leafs prog w) (rm : Room A n) {d x : Str} {op : Operator} {e : Expr} {dp xp sp pos : Pos} {k a : Bool × PV} {vars' : Vars} (F : Frame prog w hb sc env pb nb lent vars val s.heap) (hd : nameOk sc d = true)
    (hk : xE T n sc vars (.Name x xp) = some k) (ha : xE T n sc vars e = some a) (hv : augP d k.2 op a.2 vars = some vars') (E : Value → Shared → Prop) (Q : Flow → Shared → Prop)
    (q : ∀ f s', After prog w hb sc env pb nb lent (Wr sc env vars val) s (.next vars') f s' → Q f s') : wpAny (model prog w) A (exec (.AugAssign (.Subscript (.Name d dp) (.Name x xp) sp) op e pos) env) Q E s := by
  obtain ⟨k1, k2⟩ := nameOk_parts hd
  obtain ⟨s0, hl0, hv⟩ := bnd hv
  obtain ⟨u0, hou, hv⟩ := bnd hv
  obtain ⟨⟨ks, vs⟩, hdu, hv⟩ := bnd hv
  have hx : look d vars = some (.O, .dict ks vs) := by rw [own_look hl0 hou, dictL2_eq hdu]
  obtain ⟨j, hj, hv⟩ := bnd hv
  obtain ⟨hc, hv⟩ := onlyIf hv
  obtain ⟨hc1, hc2⟩ := two hc
  obtain ⟨o, hg, hv⟩ := bnd hv
  obtain ⟨u, rfl, hv2⟩ := bnd hv
  obtain ⟨r, hr, hv2⟩ := bnd hv2
  obtain ⟨kv, hkv, hv2⟩ := bnd hv2
  cases hv2
  obtain ⟨i', j', e1, e2, rfl, e3⟩ := aug_some hr
  cases e2
  refine PySem.wpAny_AugAssign_Subscript (F.name k1 k2 hx fun co hco hs => ?_)
  refine ih.e A sc env vars _ s _ k.1 k.2 rm hk F.reads F.fresh E _ fun c1 h1 tk1 st1 r1 => ?_
  obtain ⟨hi, y, rfl, r0, _, _⟩ := hs
  have hu : A.units + 1 < cLine := by have := rm.u; (first | lia | omega)
  have gd := (getItem_dict_sound (A := A) (s := { s with heap := h1, toks := tk1 }) (Ok := fun ok => ok = fun _ => True) hu rfl (fun ok o => by subst o; exact (r0.stays st1 fun _ x => x).weaken fun _ _ => trivial) hc1 (r1 _ .T) hg).1
  refine gd E _ fun c2 h2 tk2 st2 r2 => ?_
  have F2 := (F.stays st1).stays st2
  refine ih.e A sc env vars _ { s with heap := h2, toks := tk2 } e a.1 a.2 rm ha F2.reads F2.fresh E _ fun c3 h3 tk3 st3 r3 => ?_
  have r2' := r2 _ rfl
  rw [e1] at r2'
  have r3' := r3 _ .T
  rw [intP_eq hj] at r3'
  obtain ⟨t1, rfl⟩ := r2'.int_inv
  obtain ⟨t2, rfl⟩ := r3'.int_inv
  refine PySem.AutoIntOps.iadd_0 ?_
  have stt : s.heap.StaysIn h3 := stays_trans (stays_trans st1 st2) st3
  rw [e3] at hkv
  have himm : (PV.int (i' + j)).imm = true := rfl
  have pt := LF.put (A := A) (n := n) (s := { s with heap := h3, toks := tk3 + 1 }) (ks := ks) (vs := vs) (ks' := kv.1) (vs' := kv.2) (k := k.2) (v := .int (i' + j)) (d := y) (ck := c1) (cv := .int (i' + j) tk3) (E := E) (Q := fun _ s' => Q .next s') rm hc1 himm hc2 hkv hi (r0.stays stt fun _ x => x) ((r1 _ .T).stays (stays_trans st2 st3) fun _ x => x) (.int _ _)
  refine (pt fun h4 tk4 r4 hs4 => ?_).2
  obtain ⟨F4, adv4⟩ := (F2.stays st3).upd (v' := .dict kv.1 kv.2) hx rfl hco rfl (fun b o e ne => (hs4.2 b ne).trans e) (sameBut_ex hs4 r4.ref_some.some) (put_ok hi (key_imm hc1) himm hkv) r4
  exact q _ _ (.next F4 ((Adv.stays stt).trans adv4))

theorem int_of (h : env.scope.kind = .function) : interactive env = false := by unfold interactive; rw [h]; rfl

theorem methL_ok {m : Str} {as l l' : List PV} (hi : okItems (.list l) = true) (e : methL m as l = some l') : okItems (.list l') = true := by
  have h : ∀ x ∈ l, x.imm = true := List.all_eq_true.mp hi
  refine List.all_eq_true.mpr fun x hx => ?_
  rcases methL_is e with ⟨_, e⟩ | ⟨_, e⟩
  · obtain ⟨v, _, hv, _, rfl⟩ := appL_is e
    rcases List.mem_append.mp hx with hx | hx
    · exact h x hx
    · rw [List.mem_singleton.mp hx]; exact hv
  · obtain ⟨i, v, _, hv, _, _, _, rfl⟩ := insL_is e
    rcases List.mem_append.mp hx with hx | hx
    · exact h x (List.mem_of_mem_take hx)
    · rcases List.mem_cons.mp hx with rfl | hx
      · exact hv
      · exact h x (List.mem_of_mem_drop hx)

theorem s_meth (ih : Snd prog w T hb n) (LF : Leafs prog w) (rm : Room A n) {d m : Str} {args : List Expr} {dp apos pos epos : Pos} {as : List (Bool × PV)} {vars' : Vars} (F : Frame prog w hb sc env pb nb lent vars val s.heap) (hd : nameOk sc d = true) (hline : (apos.endLine == pos.line) = true) (hfew : args.length < 30)
    (has : xEs T n sc vars args = some as) (hv : methP d m (as.map (·.2)) vars = some vars') (E : Value → Shared → Prop) (Q : Flow → Shared → Prop)
    (q : ∀ f s', After prog w hb sc env pb nb lent (Wr sc env vars val) s (.next vars') f s' → Q f s') : wpAny (model prog w) A (exec (.Expr (.Call (.Attribute (.Name d dp) m apos) args [] pos) epos) env) Q E s := by
  obtain ⟨k1, k2⟩ := nameOk_parts hd
  obtain ⟨⟨md, u⟩, hl0, hv⟩ := bnd hv
  obtain ⟨l, hlu, hv⟩ := bnd hv
  have hx : look d vars = some (md, .list l) := by rw [hl0]; exact congrArg (fun u => some (md, u)) (listL_eq hlu)
  obtain ⟨hm, hv⟩ := onlyIf hv
  obtain ⟨l', hl', hv⟩ := bnd hv
  cases hv
  refine wpAny_Expr (meth_call (n := n) (sc := sc) (vars := vars) (T := T) rfl hline has hfew (F.name k1 k2 hx fun co hco hs => ?_)) (int_of F.kind) rfl
  obtain ⟨hi, y, rfl, r0, _⟩ := hs.own hm
  obtain ⟨T', id, x1, x2, x3, x4, x5, x6⟩ := LF.lmeth (A := A) (s := s) rm hl' hi r0
  refine ⟨T', id, x1, x2, x3, x4, x5, ih.es A sc env vars _ s args as rm has F.reads F.fresh pos E _ fun cs h1 tk1 st1 vr => ?_⟩
  refine x6 h1 tk1 cs _ E _ st1 vr fun h2 tk2 r2 hs2 => ?_
  obtain ⟨F2, adv2⟩ := (F.stays st1).upd (v' := .list l') hx hm hco rfl (fun b o e ne => (hs2.2 b ne).trans e) (sameBut_ex hs2 r2.ref_some.some) (methL_ok hi hl') r2
  exact q _ _ (.next F2 ((Adv.stays st1).trans adv2))
end
end Mine

namespace Mine
open PySem PySem.Calls PyProof.Rows PySem.W PySem.SeqAt

section
variable {prog : Program} {w : World} {T : Tab} {hb h h₀ h' : Heap} {n : Nat} {A : Around} {sc : Scope} {env : Env} {vars : Vars} {pub : Pubs} {pb nb : Addr → Prop} {lent : Addr} {val : Str → Option Value} {s : Shared} {p : Bool} {v : PV}

theorem all_handed {vs : List (Bool × PV)} {cs : List Value} {la : Addr} (r : VsRep prog w h pub vs cs) (ha : vs.all (·.1) = true) : ArgsF (Handed prog w h pub.p la) (vs.map fun a => (.P, a.2)) cs := by
  induction r with
  | nil => exact .nil
  | @cons p v cv l cs a _ ih =>
    simp only [List.all_cons, Bool.and_eq_true] at ha
    refine .cons ?_ (ih ha.2)
    have hp : p = true := ha.1
    exact a _ (.inr (.inr ⟨hp, rfl⟩))

theorem s_insort (ih : Snd prog w T hb n) (G : Glob T hb) (rm : Room A (n + 1)) {f d : Str} {fq dp pos epos : Pos} {args : List Expr} {fn : Fn} {as : List (Bool × PV)} {u : PV} {vars2 vars' : Vars} {r : Res} (F : Frame prog w hb sc env pb nb lent vars val s.heap)
    (hg : isG sc f = true) (hd : nameOk sc d = true) (hf : tabLook f T = some fn) (has : xEs T n sc vars args = some as) (ho : ownedName (.Name d dp) vars = some u) (hall : as.all (·.1) = true) (hcont : isCont u = true)
    (hb' : bindArgsV fn.params ((.M, u) :: as.map fun a => (.P, a.2)) fn.dflts = some vars2) (hr : xSs T n fn.scope vars2 fn.body = some r) (hbk : backP d fn.params r vars = some vars') (E : Value → Shared → Prop) (Q : Flow → Shared → Prop)
    (q : ∀ f s', After prog w hb sc env pb nb lent (Wr sc env vars val) s (.next vars') f s' → Q f s') : wpAny (model prog w) A (exec (.Expr (.Call (.Name f fq) (.Name d dp :: args) [] pos) epos) env) Q E s := by
  obtain ⟨k1, k2⟩ := nameOk_parts hd
  have hx : look d vars = some (.O, u) := by
    obtain ⟨x, q, e, hx⟩ := ownedName_is ho
    cases e; exact hx
  refine wpAny_Expr ?_ (int_of F.kind) rfl
  rw [arm_eval_Call_Name']
  refine wpAny_bind (load_fn G F.reads hg hf fun a fa => ?_)
  show wpAny _ _ (callWith pos (.ref a) [] (backTo pos (starEach (.Name d dp :: args) env)) []) _ _ _
  have star : starEach (.Name d dp :: args) env = (false, eval (.Name d dp) env) :: starEach args env := rfl
  obtain ⟨o, fd, hoa, hda, _⟩ := fa.fd
  rw [star]
  refine Calls.callWith_function (o := o) (fd := fd) (Calls.evalArgs_plain (Calls.spliced_cons (F.name k1 k2 hx fun co hco hs => ?_)))
  obtain ⟨hi, la, rfl, r0, hpla, hnla⟩ := hs
  refine ih.es A sc env vars _ s args as rm.pred has F.reads F.fresh pos E _ fun cs h1 tk1 st1 vr => ⟨⟨st1 _ _ (F.base _ _ hoa), hda⟩, ?_⟩
  have F1 := F.stays st1
  have laW : Wr sc env vars val la := .inr (.inr ⟨d, .O, u, hx, rfl, hco⟩)
  -- the callee's names: the first alone is lent
  obtain ⟨p0, ps, rest, hps, hv2, hrest⟩ : ∃ p0 ps rest, fn.params = p0 :: ps ∧ vars2 = (p0, .M, u) :: rest ∧ ∀ y md v, (y, md, v) ∈ rest → md = .P := by
    cases hpar : fn.params with
    | nil => rw [hpar] at hb'; exact noS hb'
    | cons p0 ps =>
      rw [hpar] at hb'
      obtain ⟨rest, hre, e⟩ := Option.map_eq_some_iff.mp (show (bindArgsV ps (as.map fun a => (.P, a.2)) (dropD p0 fn.dflts)).map ((p0, .M, u) :: ·) = some vars2 from hb')
      refine ⟨p0, ps, rest, rfl, e.symm, fun y md v hy => ?_⟩
      rcases bindArgs_modes hre y md v hy with e | hm
      · exact e
      · obtain ⟨b, _, e⟩ := List.mem_map.mp hm; cases e; rfl
  have onlyM : ∀ y md v, (y, md, v) ∈ vars2 → ownM md = true → y = p0 := fun y md v hy hm => by
    rw [hv2] at hy
    rcases List.mem_cons.mp hy with e | hy
    · cases e; rfl
    · rw [hrest y md v hy] at hm; cases hm
  refine call_enter (s := { s with heap := h1, toks := tk1 }) (pub := (frPubs sc env pb nb vars val).p) (lent := la) ih rm fa G.nolimit F1.base F1.fresh hb' hr (.cons ⟨hi, rfl, r0.stays st1 fun _ x => x⟩ (all_handed vr hall))
    (fun y md v _ _ => ⟨F.old la laW, (r0.stays st1 fun _ x => x).ref_some.some⟩) (fun y z my vy mz vz hy hz hmy hmz => (onlyM y my vy hy hmy).trans (onlyM z mz vz hz hmz).symm) (.inl fun o => o.2 laW) fun cv h2 tk2 kp ex ends => ?_
  obtain ⟨vars3, hn, hbk⟩ := bnd hbk
  obtain ⟨pp, _, hbk⟩ := bnd hbk
  obtain ⟨s3, hl3, hbk⟩ := bnd hbk
  obtain ⟨v3, hle, hbk⟩ := bnd hbk
  cases hbk
  cases r with
  | ret => exact noS hn
  | next vars4 =>
    cases (show some vars4 = some vars3 from hn)
    obtain ⟨rfl, hM⟩ := ends
    obtain ⟨hi3, r3⟩ := hM pp v3 (hl3.trans (congrArg some (lentV_eq hle)))
    obtain ⟨F2, adv2⟩ := F1.upd (v' := v3) hx rfl hco hcont (fun b o e ne => kp b o e (.inl ne)) (fun b e => (ex b e).elim id fun x => absurd (x ▸ e) r3.ref_some.some) hi3 r3
    exact q _ _ (.next F2 ((Adv.stays st1).trans adv2))

theorem swaps_no {e : Expr} {t : Option Expr} {line : Nat} (ht : t ≠ none) (he : ∀ elt gens sc pos, e ≠ .ListComp elt gens sc pos) (he2 : ∀ elt gens sc pos, e ≠ .SetComp elt gens sc pos) (he3 : ∀ k v gens sc pos, e ≠ .DictComp k v gens sc pos) : swapsWith e t line env = pure false := by
  cases e with
  | ListComp => exact absurd rfl (he _ _ _ _)
  | SetComp => exact absurd rfl (he2 _ _ _ _)
  | DictComp => exact absurd rfl (he3 _ _ _ _ _)
  | _ => rfl

theorem slotE {n : Nat} {e : Expr} {sl : Mode × PV} (hs : xSlot T n sc vars e = some sl) : (∀ a b c d, e ≠ .SetComp a b c d) ∧ ∀ k v a b c, e ≠ .DictComp k v a b c := by
  cases n with
  | zero => exact noS hs
  | succ n =>
    constructor
    · rintro a b c d rfl
      cases n <;> exact noS hs
    · rintro k v a b c rfl
      cases n <;> exact noS hs
theorem s_name (ih : ∀ k, k ≤ n → Snd prog w T hb k) (rm : Room A n) {x : Str} {px pos : Pos} {e : Expr} {r : Res} (F : Frame prog w hb sc env pb nb lent vars val s.heap) (hv : zAsgN (zRec T n) sc vars x e = some r) (E : Value → Shared → Prop) (Q : Flow → Shared → Prop)
    (q : ∀ f s', After prog w hb sc env pb nb lent (Wr sc env vars val) s r f s' → Q f s') : wpAny (model prog w) A (exec (.Assign [.Name x px] e pos) env) Q E s := by
  have ihn := ih n (Nat.le_refl n)
  obtain ⟨hx, hv⟩ := onlyIf hv
  obtain ⟨sl, hs, hv⟩ := bnd hv
  cases hv
  by_cases hcomp : ∃ elt gens csc cp, e = .ListComp elt gens csc cp
  · obtain ⟨elt, gens, csc, cp, rfl⟩ := hcomp
    obtain ⟨b, hsw⟩ : ∃ b, swapsWith (.ListComp elt gens csc cp) (some (.Name x px)) pos.line env = pure b := ⟨_, rfl⟩
    cases b with
    | false => exact s_assign1 ihn rm F hx hs hsw E Q q
    | true =>
      cases n with
      | zero => exact noS hs
      | succ n =>
        obtain ⟨a, ha, hs⟩ := bnd (show (xE T n sc vars (.ListComp elt gens csc cp)).bind pubM = some sl from hs)
        cases n with
        | zero => exact noS ha
        | succ n =>
          obtain ⟨t, it, ifs, rest, items, r, rfl, hok, hi, hr, hz, rfl⟩ := comp_is (show zComp (zRec T n) sc vars elt gens csc = some a from ha)
          cases hs
          exact s_assignC (ih n (by (first | lia | omega))) (rm.le (by (first | lia | omega))) F hx hok hi hr hz hsw E Q q
  · exact s_assign1 ihn rm F hx hs (swaps_no (by simp) (fun a b c d e' => hcomp ⟨a, b, c, d, e'⟩) (slotE hs).1 (slotE hs).2) E Q q
theorem s_asg (ih : ∀ k, k ≤ n → Snd prog w T hb k) (LF : Leafs prog w) (rm : Room A n) {t e : Expr} {pos : Pos} {r : Res} (F : Frame prog w hb sc env pb nb lent vars val s.heap) (hv : zAsg1 (zRec T n) sc vars (tgtOf t) e = some r) (E : Value → Shared → Prop) (Q : Flow → Shared → Prop)
    (q : ∀ f s', After prog w hb sc env pb nb lent (Wr sc env vars val) s r f s' → Q f s') : wpAny (model prog w) A (exec (.Assign [t] e pos) env) Q E s := by
  have ihn := ih n (Nat.le_refl n)
  rcases tgtOf_is (e := t) with ⟨x, px, rfl⟩ | ⟨ts, k, tp, rfl⟩ | ⟨d, dp, i, sp, rfl⟩ | ho
  · exact s_name ih rm F hv E Q q
  · have hv : zAsgTupO (zRec T n) sc vars ts (tupOf e) = some r := hv
    cases he : tupOf e with
    | none => rw [he] at hv; exact noS hv
    | some es =>
      rw [he] at hv
      obtain ⟨k2, p2, rfl⟩ := tupOf_eq he
      obtain ⟨sw, h1, hv⟩ := bnd hv
      obtain ⟨ss, h2, hv⟩ := bnd hv
      obtain ⟨vars', h3, hv⟩ := bnd hv
      cases hv
      exact s_tuple ihn rm F h1 h2 h3 E Q q
  · obtain ⟨hd, hv⟩ := onlyIf (show (bif nameOk sc d then (xE T n sc vars e).bind fun a => (xE T n sc vars i).bind fun k => (storeP d k.2 a.2 vars).bind fun v => some (.next v) else none) = some r from hv)
    obtain ⟨a, ha, hv⟩ := bnd hv
    obtain ⟨k, hk, hv⟩ := bnd hv
    obtain ⟨vars', hv', hv⟩ := bnd hv
    cases hv
    exact s_put ihn LF rm F hd ha hk hv' E Q q
  · rw [ho] at hv; exact noS hv
theorem s_augA (ihn : Snd prog w T hb n) (LF : Leafs prog w) (rm : Room A n) {t e : Expr} {op : Operator} {pos : Pos} {r : Res} (F : Frame prog w hb sc env pb nb lent vars val s.heap) (hv : zAug (zRec T n) sc vars (tgtOf t) t op e = some r) (E : Value → Shared → Prop) (Q : Flow → Shared → Prop)
    (q : ∀ f s', After prog w hb sc env pb nb lent (Wr sc env vars val) s r f s' → Q f s') : wpAny (model prog w) A (exec (.AugAssign t op e pos) env) Q E s := by
  rcases tgtOf_is (e := t) with ⟨x, px, rfl⟩ | ⟨ts, k, tp, rfl⟩ | ⟨d, dp, i, sp, rfl⟩ | ho
  · obtain ⟨hx, hv⟩ := onlyIf (show zAugN (zRec T n) sc vars x (.Name x px) op e = some r from hv)
    obtain ⟨o, ho, hv⟩ := bnd hv
    obtain ⟨a, ha, hv⟩ := bnd hv
    obtain ⟨u, hu, hv⟩ := bnd hv
    cases hv
    exact s_aug ihn rm F hx ho ha hu E Q q
  · exact noS hv
  · have hv : zAugI (zRec T n) sc vars d i op e (nameOf i) = some r := hv
    cases hi : nameOf i with
    | none => rw [hi] at hv; exact noS hv
    | some x =>
      rw [hi] at hv
      obtain ⟨xp, rfl⟩ := nameOf_eq hi
      obtain ⟨hd, hv⟩ := onlyIf hv
      obtain ⟨k, hk, hv⟩ := bnd hv
      obtain ⟨a, ha, hv⟩ := bnd hv
      obtain ⟨vars', hv', hv⟩ := bnd hv
      cases hv
      exact s_augsub ihn LF rm F hd hk ha hv' E Q q
  · rw [ho] at hv; exact noS hv
theorem s_expr (ihn : Snd prog w T hb n) (G : Glob T hb) (LF : Leafs prog w) (rm : Room A (n + 1)) {e : Expr} {pos : Pos} {r : Res} (F : Frame prog w hb sc env pb nb lent vars val s.heap) (hv : zExpr T (zRec T n) sc vars (callKind e) = some r) (E : Value → Shared → Prop) (Q : Flow → Shared → Prop)
    (q : ∀ f s', After prog w hb sc env pb nb lent (Wr sc env vars val) s r f s' → Q f s') : wpAny (model prog w) A (exec (.Expr e pos) env) Q E s := by
  rcases callKind_is (e := e) with ⟨d, dp, m, apos, args, cp, rfl⟩ | ⟨f, fq, d, dp, args, cp, rfl⟩ | ho
  · obtain ⟨hc, hv⟩ := onlyIf (show zExprM (zRec T n) sc vars d m apos args cp = some r from hv)
    obtain ⟨hc, hc3⟩ := two hc
    obtain ⟨hc1, hc2⟩ := two hc
    obtain ⟨as, has, hv⟩ := bnd hv
    obtain ⟨vars', hv', hv⟩ := bnd hv
    cases hv
    exact s_meth ihn LF rm.pred F hc2 hc1 (of_decide_eq_true hc3) has hv' E Q q
  · obtain ⟨hc, hv⟩ := onlyIf (show zExprF T (zRec T n) sc vars f d dp args = some r from hv)
    obtain ⟨hc1, hc2⟩ := two hc
    obtain ⟨fn, hf, hv⟩ := bnd hv
    obtain ⟨as, has, hv⟩ := bnd hv
    obtain ⟨u, hu, hv⟩ := bnd hv
    obtain ⟨hm, hv⟩ := onlyIf hv
    obtain ⟨hm, hm3⟩ := two hm
    obtain ⟨hm1, hm2⟩ := two hm
    obtain ⟨vars2, h2, hv⟩ := bnd hv
    obtain ⟨r2, hr2, hv⟩ := bnd hv
    obtain ⟨vars', hv', hv⟩ := bnd hv
    cases hv
    exact s_insort ihn G rm F hc1 hc2 hf has hu hm2 hm3 h2 hr2 hv' E Q q
  · rw [ho] at hv; exact noS hv
theorem step_s (ih : ∀ k, k ≤ n → Snd prog w T hb k) (G : Glob T hb) (LF : Leafs prog w) : SOk prog w T hb (n + 1) := by
  intro A sc env pb nb lent vars val s st r rm hv F E Q q
  have rm' := rm.pred
  have ihn := ih n (Nat.le_refl n)
  cases st with
  | Assign ts e pos =>
    match ts with
    | [] => exact noS hv
    | _ :: _ :: _ => exact noS hv
    | [t] => exact s_asg ih LF rm' F hv E Q q
  | AugAssign t op e pos => exact s_augA ihn LF rm' F hv E Q q
  | For t it body els pos =>
    cases els with
    | cons => exact noS hv
    | nil =>
      obtain ⟨items, h1, h2⟩ := bnd (show (xIterS T n sc (Mine.freeze it vars) (isTupT t) it).bind (fun items => xFor T n sc (Mine.freeze it vars) t body items) = some r from hv)
      exact s_for ihn rm' F h1 h2 E Q q
  | While test body els pos =>
    cases els with
    | cons => exact noS hv
    | nil => exact wpAny_While (ihn.while_ A sc env pb nb lent vars val s test body r rm' hv F _ fun f s' aft => q f s' aft)
  | If t a b pos =>
    obtain ⟨c, hc, hv⟩ := bnd (show (xT T n sc vars t).bind (fun c => bif c then xSs T n sc vars a else xSs T n sc vars b) = some r from hv)
    exact s_if ihn rm' F hc hv E Q q
  | Return o pos =>
    cases o with
    | none => exact noS hv
    | some e => exact s_ret ihn rm' F hv E Q q
  | Expr e pos => exact s_expr ihn G LF rm F hv E Q q
  | _ => exact noS hv
end
end Mine

namespace Mine
open PySem PySem.Calls PyProof.Rows PySem.W PySem.SeqAt

section
variable {prog : Program} {w : World} {T : Tab} {hb : Heap}

theorem snd_zero : Snd prog w T hb 0 where
  e := fun A sc env vars pub s e p v rm hv => noS hv
  o := fun A sc env vars pub s e v rm hv => noS hv
  es := fun A sc env vars pub s es vs rm hv => noS hv
  bools := fun A sc env vars pub s op es b rm hv => noS hv
  t := fun A sc env vars pub s e b rm hv => noS hv
  ts := fun A sc env vars pub s op es b rm hv => noS hv
  chain := fun A sc env vars pub s a ops rs b ca rm hv => noS hv
  iter := fun A sc env vars pub s target tup e its rm hv => noS hv
  iterS := fun A sc env pb nb lent vars val s target tup e its rm hv => noS hv
  bi := fun A sc env vars pub s b args v rm hv => noS hv
  comp := fun A sc env pb nb lent vars val s target iter ifs elt gens scope0 pos0 depth rest D ys out vars' I pi wr dep its St i rm hv => noS hv
  elt := fun A sc env pb nb lent vars val s elt gens scope0 pos0 depth rest D ys out vars' rm hv => noS hv
  call := fun A fn as v a s vals pub rm hv => noS hv
  ss := fun A sc env pb nb lent vars val s body r rm hv => noS hv
  slot := fun A sc env vars pub s e md v rm hv => noS hv
  slots := fun A sc env vars pub s es ss rm hv => noS hv
  s := fun A sc env pb nb lent vars val s st r rm hv => noS hv
  for_ := fun A sc env pb nb lent vars val s target body r I pi wr dep its St i rm hv => noS hv
  while_ := fun A sc env pb nb lent vars val s test body r rm hv => noS hv

theorem snd_succ {n : Nat} (ih : ∀ k, k ≤ n → Snd prog w T hb k) (G : Glob T hb) (LF : Leafs prog w) (hc : Consts prog w T hb) : Snd prog w T hb (n + 1) :=
  have i := ih n (Nat.le_refl n)
  { e := step_e i G LF
    o := step_o i
    es := step_es i
    bools := step_bools i
    t := step_t i
    ts := step_ts i
    chain := step_chain i
    iter := step_iter i G LF
    iterS := step_iterS i G LF
    bi := step_bi i G LF
    comp := step_comp i
    elt := step_elt i
    call := step_call i G.nolimit hc
    ss := step_ss i
    slot := step_slot i
    slots := step_slots i
    s := step_s ih G LF
    for_ := step_for i
    while_ := step_while i }

theorem snd (G : Glob T hb) (LF : Leafs prog w) (hc : Consts prog w T hb) (n : Nat) : Snd prog w T hb n := by
  have key : ∀ n k, k ≤ n → Snd prog w T hb k := by
    intro n
    induction n with
    | zero => intro k hk; have : k = 0 := by (first | lia | omega)
              subst this; exact snd_zero
    | succ n ih =>
      intro k hk
      rcases Nat.lt_or_ge k (n + 1) with h | h
      · exact ih k (by (first | lia | omega))
      · have : k = n + 1 := by (first | lia | omega)
        subst this; exact snd_succ ih G LF hc
  exact key n n (Nat.le_refl n)
end
end Mine

namespace Mine
open PySem PySem.Calls PyProof.Rows PySem.W PySem.SeqAt

section
variable {prog : Program} {w : World} {h : Heap} {A : Around} {s : Shared} {n : Nat}

theorem put_T {ok : Addr → Prop} {as : List Atom} {x : Addr} {v : PV} {cv : Value} (rv : VRep prog w h ok v cv) : ∀ {xs : List (List Atom × Addr × Value)} {vs ks' vs' : List PV}, (xs.map (·.1)).Nodup → VAll prog w h ok vs (xs.map fun x => x.2.2) →
    putD2 (tupPV as) v (xs.map fun x => tupPV x.1) vs = some (ks', vs') → ks' = (storedH xs as x cv).map (fun x => tupPV x.1) ∧ VAll prog w h ok vs' ((storedH xs as x cv).map fun x => x.2.2)
  | [], vs, ks', vs', _, r, e => by
    simp only [List.map_nil, putD2, Option.some.injEq, Prod.mk.injEq] at e
    obtain ⟨rfl, rfl⟩ := e
    exact ⟨by simp [storedH, atKey], .cons rv .nil⟩
  | (a, p) :: xs, vs, ks', vs', hn, r, e => by
    cases r with | cons r0 rr =>
    simp only [List.map_cons, List.nodup_cons] at hn
    simp only [List.map_cons, putD2] at e
    cases hq : PV.eq (tupPV a) (tupPV as) with
    | none => rw [hq] at e; cases e
    | some c =>
      rw [hq] at e
      have hc := (eq_true hq).trans ⟨fun e => tupPV_inj e, fun e => by rw [e]⟩
      cases c with
      | true =>
        have hak : a = as := hc.mp rfl
        subst hak
        simp only [Option.some.injEq, Prod.mk.injEq, List.tail_cons] at e
        obtain ⟨rfl, rfl⟩ := e
        have hst : storedH ((a, p) :: xs) a x cv = (a, p.1, cv) :: xs := by
          rw [storedH_old (p := p) (by simp [atKey])]
          rw [List.map_cons, map_putAt_of_not_mem _ _ _ hn.1]
          simp [putAt]
        rw [hst]
        exact ⟨rfl, .cons rv rr⟩
      | false =>
        have hak : ¬ a = as := fun h => by have := hc.mpr h; cases this
        simp only [Option.map_eq_some_iff, List.head?_cons, Option.toList_some, List.tail_cons] at e
        obtain ⟨q, hq', e⟩ := e
        obtain ⟨i1, i2⟩ := put_T rv (x := x) hn.2 rr hq'
        simp only [Prod.mk.injEq] at e
        obtain ⟨rfl, rfl⟩ := e
        have hst : storedH ((a, p) :: xs) as x cv = (a, p) :: storedH xs as x cv := by
          unfold storedH
          have : atKey ((a, p) :: xs) as = atKey xs as := by simp [atKey, hak]
          rw [this]
          split
          · rw [List.map_cons]; simp [putAt, hak]
          · rfl
        rw [hst]
        exact ⟨by rw [i1]; rfl, .cons r0 i2⟩
theorem put_A {ok : Addr → Prop} {k : Atom} {v : PV} {cv : Value} (rv : VRep prog w h ok v cv) : ∀ {xs : List (Atom × Value)} {vs ks' vs' : List PV}, (xs.map (·.1)).Nodup → VAll prog w h ok vs (xs.map fun x => x.2) →
    putD2 (atomPV k) v (xs.map fun x => atomPV x.1) vs = some (ks', vs') → ks' = (stored xs k cv).map (fun x => atomPV x.1) ∧ VAll prog w h ok vs' ((stored xs k cv).map fun x => x.2)
  | [], vs, ks', vs', _, r, e => by
    simp only [List.map_nil, putD2, Option.some.injEq, Prod.mk.injEq] at e
    obtain ⟨rfl, rfl⟩ := e
    exact ⟨by simp [stored], .cons rv .nil⟩
  | (a, p) :: xs, vs, ks', vs', hn, r, e => by
    cases r with | cons r0 rr =>
    simp only [List.map_cons, List.nodup_cons] at hn
    simp only [List.map_cons, putD2] at e
    cases hq : PV.eq (atomPV a) (atomPV k) with
    | none => rw [hq] at e; cases e
    | some c =>
      rw [hq] at e
      have hc := (eq_true hq).trans ⟨fun e => atomPV_inj e, fun e => by rw [e]⟩
      cases c with
      | true =>
        have hak : a = k := hc.mp rfl
        subst hak
        simp only [Option.some.injEq, Prod.mk.injEq, List.tail_cons] at e
        obtain ⟨rfl, rfl⟩ := e
        have hst : stored ((a, p) :: xs) a cv = (a, cv) :: xs := by
          unfold stored
          rw [if_pos (by simp), List.map_cons]
          simp only [if_true]
          congr 1
          refine (List.map_congr_left fun y hy => ?_).trans (List.map_id xs)
          have : y.1 ≠ a := fun e => hn.1 (List.mem_map.mpr ⟨y, hy, e⟩)
          simp [this]
        rw [hst]
        exact ⟨rfl, .cons rv rr⟩
      | false =>
        have hak : ¬ a = k := fun h => by have := hc.mpr h; cases this
        simp only [Option.map_eq_some_iff, List.head?_cons, Option.toList_some, List.tail_cons] at e
        obtain ⟨q, hq', e⟩ := e
        obtain ⟨i1, i2⟩ := put_A rv hn.2 rr hq'
        simp only [Prod.mk.injEq] at e
        obtain ⟨rfl, rfl⟩ := e
        have hst : stored ((a, p) :: xs) k cv = (a, p) :: stored xs k cv := by
          unfold stored
          simp only [List.any_cons, hak, decide_false, Bool.false_or]
          split
          · rw [List.map_cons]; simp [hak]
          · rfl
        rw [hst]
        exact ⟨by rw [i1]; rfl, .cons r0 i2⟩

theorem get_of_put {k v : PV} : ∀ {ks vs : List PV} {r : List PV × List PV}, ks.length = vs.length → putD2 k v ks vs = some r → ∃ o, getD2 k ks vs = some o
  | [], vs, r, _, _ => ⟨none, by simp [getD2]⟩
  | y :: ks, [], r, hl, _ => by simp at hl
  | y :: ks, z :: vs, r, hl, e => by
    simp only [putD2] at e
    simp only [getD2]
    cases hq : PV.eq y k with
    | none => rw [hq] at e; cases e
    | some c =>
      rw [hq] at e
      cases c with
      | true => exact ⟨some z, rfl⟩
      | false =>
        simp only [Option.map_eq_some_iff] at e
        obtain ⟨p, hp, _⟩ := e
        exact get_of_put (by simpa using hl) hp

theorem dict_notTup {K : Type} [DecidableEq K] {knd : PySem.KeyKind prog w K} {d : Addr} {xs : List (K × Value)} (hd : h.DictOf knd d xs) : ∀ o, h.get? d = some o → ¬ isTupObj o := fun o e t => by
  obtain ⟨ob, _, _, ho, hx, _⟩ := hd
  rw [e] at ho; cases ho
  have := t.1; rw [hx.1] at this; simp at this
theorem dictH_notTup {K : Type} [DecidableEq K] {knd : HeapKind prog w K} {d : Addr} {xs : List (K × Addr × Value)} (hd : h.DictOfH knd d xs) : ∀ o, h.get? d = some o → ¬ isTupObj o := fun o e t => by
  obtain ⟨ob, _, _, ho, hx, _⟩ := hd
  rw [e] at ho; cases ho
  have := t.1; rw [hx.1] at this; simp at this

theorem put_core {ks vs ks' vs' : List PV} {k v : PV} {d : Addr} {ck cv : Value} {E : Value → Shared → Prop} {Q : Unit → Shared → Prop} (hu : A.units < cLine ∧ A.units + 1 < cLine) (hk : keyP k = true) (hv : v.imm = true) (hz : szOk ks.length = true) (hp : putD2 k v ks vs = some (ks', vs')) (hi : okItems (.dict ks vs) = true)
    (rd : VRep prog w s.heap (fun b => b = d) (.dict ks vs) (.ref d)) (rk : VRep prog w s.heap (fun _ => True) k ck) (rv : VRep prog w s.heap (fun _ => True) v cv)
    (q : ∀ h' tk, VRep prog w h' (fun b => b = d) (.dict ks' vs') (.ref d) → Heap.SameBut d s.heap h' → Q () { s with heap := h', toks := tk }) : wpAny (model prog w) A (dictSet d ck cv) Q E s ∧ wpAny (model prog w) A (setItem (.ref d) ck cv) Q E s := by
  obtain ⟨d', e, hds, dv⟩ := dicts (Ok := fun ok => ok = fun _ => True) rfl (fun ok o => by subst o; exact rd.weaken fun _ _ => trivial)
  cases e
  have hvs : PV.imms vs = true := (Bool.and_eq_true_iff.mp hi).2
  have hlen : ks.length = vs.length := by
    cases dv with
    | T xs hd e ha => subst e; have := (ha _ rfl).2.length; simp at this ⊢; (first | lia | omega)
    | A xs hd e ha => subst e; have := (ha _ rfl).2.length; simp at this ⊢; (first | lia | omega)
  obtain ⟨o, hg⟩ := get_of_put hlen hp
  have hme : Mut s.heap d := rd.ref_some
  have rv' : VRep prog w s.heap (fun _ => False) v cv := imm_any hv rv
  cases kview dv hk rk hg with
  | T as x e1 e2 hk' xs hd e' ha =>
    subst e1; subst e2; subst e'
    have hsz : xs.length ≤ sizeLine := by have := szOk_le hz; simpa using this
    have hnd : (xs.map (·.1)).Nodup := let ⟨_, _, _, _, _, _, _, _, hn⟩ := hd; hn
    obtain ⟨i1, i2⟩ := put_T (x := x) rv' hnd (imms_any (ok' := fun _ => False) hvs (ha _ rfl).2) hp
    have fin : ∀ h', h'.DictOfH (tupKind prog w) d (storedH xs as x cv) → Heap.SameBut d s.heap h' → VRep prog w h' (fun b => b = d) (.dict ks' vs') (.ref d) := fun h' hm hs =>
      .dictT _ rfl hm hds i1 (i2.kp (kp_sameBut hs hme (dictH_notTup hd)) fun _ f => f.elim)
    exact ⟨wpAny_dictSet_heap (hsz := hsz) hu.1 hk' hd fun h' hm hs => q h' _ (fin h' hm hs) hs, wpAny_setItem_heap (hsz := hsz) hu.2 hk' hd fun h' hm hs => q h' _ (fin h' hm hs) hs⟩
  | A k' e1 hk' xs hd e' ha =>
    subst e1; subst e'
    have hsz : xs.length ≤ sizeLine := by have := szOk_le hz; simpa using this
    have hnd : (xs.map (·.1)).Nodup := let ⟨_, _, _, _, _, _, _, _, hn⟩ := hd; hn
    obtain ⟨i1, i2⟩ := put_A rv' hnd (imms_any (ok' := fun _ => False) hvs (ha _ rfl).2) hp
    have fin : ∀ h', h'.DictOf (atomKind prog w) d (stored xs k' cv) → Heap.SameBut d s.heap h' → VRep prog w h' (fun b => b = d) (.dict ks' vs') (.ref d) := fun h' hm hs =>
      .dictA _ rfl hm hds i1 (i2.kp (kp_sameBut hs hme (dict_notTup hd)) fun _ f => f.elim)
    exact ⟨wpAny_dictSet_pairs (hsz := hsz) hk' hd fun h' hm hs => q h' _ (fin h' hm hs) hs, wpAny_setItem_pairs (hsz := hsz) hk' hd fun h' hm hs => q h' _ (fin h' hm hs) hs⟩

theorem leaf_put {ks vs ks' vs' : List PV} {k v : PV} {d : Addr} {ck cv : Value} {E : Value → Shared → Prop} {Q : Unit → Shared → Prop} (rm : Room A n) (hk : keyP k = true) (hv : v.imm = true) (hz : szOk ks.length = true) (hp : putD2 k v ks vs = some (ks', vs')) (hi : okItems (.dict ks vs) = true)
    (rd : VRep prog w s.heap (fun b => b = d) (.dict ks vs) (.ref d)) (rk : VRep prog w s.heap (fun _ => True) k ck) (rv : VRep prog w s.heap (fun _ => True) v cv)
    (q : ∀ h' tk, VRep prog w h' (fun b => b = d) (.dict ks' vs') (.ref d) → Heap.SameBut d s.heap h' → Q () { s with heap := h', toks := tk }) : wpAny (model prog w) A (dictSet d ck cv) Q E s ∧ wpAny (model prog w) A (setItem (.ref d) ck cv) Q E s :=
  put_core (by have := rm.u; (first | lia | omega)) hk hv hz hp hi rd rk rv q
end
end Mine

namespace Mine
open PySem PySem.Calls PyProof.Rows PySem.W PySem.SeqAt
open MeetsSeq

section
variable {prog : Program} {w : World} {h : Heap} {A : Around} {s : Shared} {n : Nat} {pub : Pubs}

theorem own_list {l : List PV} {d : Addr} (r : VRep prog w h (fun b => b = d) (.list l) (.ref d)) (hi : okItems (.list l) = true) : ∃ items m, h.get? d = some { cls := .type "list", dict := none, data := .seq items m, slots := #[] } ∧ ∀ ok, VAll prog w h ok l items.toList := by
  obtain ⟨_, items, e, _, ⟨m, hl⟩, ha⟩ := r.list_inv
  cases e
  exact ⟨items, m, hl, fun ok => imms_any hi ha⟩

theorem own_new {l l' : List PV} {d : Addr} {items : Array Value} {m : Nat} {h' : Heap} {g : Array Value → Array Value} (hl' : h'.get? d = some { cls := .type "list", dict := none, data := .seq items m, slots := #[] })
    (ha : VAll prog w h' (fun _ => False) l items.toList) (f : (∀ ok, VAll prog w (h'.update d (Obj.mapSeq g)) ok l items.toList) → VAll prog w (h'.update d (Obj.mapSeq g)) (fun b => b = d) l' (g items).toList) : VRep prog w (h'.update d (Obj.mapSeq g)) (fun b => b = d) (.list l') (.ref d) :=
  have kp : Kp (fun b => b = d) h' (h'.update d (Obj.mapSeq g)) := kp_sameBut (Heap.SameBut.update ..) ⟨_, hl', .inl ⟨_, _, rfl⟩⟩ (list_notTup ⟨m, hl'⟩)
  .list rfl ⟨_, IsL.update hl' g⟩ (f fun _ => ha.kp kp fun _ f => f.elim)
theorem own_imm {v : PV} {cv : Value} {d : Addr} {items : Array Value} {m : Nat} {h' : Heap} {g : Array Value → Array Value} {ok ok' : Addr → Prop} (hl' : h'.get? d = some { cls := .type "list", dict := none, data := .seq items m, slots := #[] }) (hv : v.imm = true) (rv : VRep prog w h' ok v cv) : VRep prog w (h'.update d (Obj.mapSeq g)) ok' v cv :=
  (imm_any (ok' := fun _ => False) hv rv).kp (kp_sameBut (Heap.SameBut.update ..) ⟨_, hl', .inl ⟨_, _, rfl⟩⟩ (list_notTup ⟨m, hl'⟩)) fun _ f => f.elim

theorem lm_append {as : List (Bool × PV)} {l l' : List PV} {d : Addr} (e : appL l (as.map (·.2)) = some l') (hi : okItems (.list l) = true) (r : VRep prog w s.heap (fun b => b = d) (.list l) (.ref d)) :
    MethOf s "append" (.ref d) fun id => ∀ h' tk cs pub (E : Value → Shared → Prop) (Q : Value → Shared → Prop), s.heap.StaysIn h' → VsRep prog w h' pub as cs →
      (∀ h'' tk', VRep prog w h'' (fun b => b = d) (.list l') (.ref d) → Heap.SameBut d h' h'' → Q .none { s with heap := h'', toks := tk' }) → wpAny (model prog w) A (call (.builtin id) (.ref d :: cs)) Q E { s with heap := h', toks := tk } := by
  obtain ⟨items, k, hl, ha⟩ := own_list r hi
  have hlen : l.length = items.size := (ha fun _ => True).length
  refine ⟨"list", "list.append", F.plainAttrs_list, F.slot_list_append, F.type_list_append, ⟨_, hl, rfl⟩, fun a e => by cases e; exact ⟨_, hl, rfl⟩, fun h' tk cs pub E Q st vr q => ?_⟩
  obtain ⟨v, has, hv, hz, rfl⟩ := appL_is e
  have vr' := vr.all (q := false) nofun _ .T
  rw [has] at vr'
  obtain ⟨cv, cs, rfl, rv, rr⟩ := vr'.cons_inv
  obtain rfl := rr.nil_inv
  have hl' := st _ _ hl
  refine call_meets F.slot_list_append ⟨_, hl', rfl⟩ F.entry_list_append (F.args_list_append_2 _ _) (PySem.list_append d items k cv (hlen ▸ szOk_le hz)) ⟨hl', q _ _ (own_new hl' ((ha fun _ => False).stays st fun _ x => x) fun ha' => ?_) (Heap.SameBut.update ..)⟩
  rw [Array.toList_push]
  exact (ha' _).append (.cons (own_imm hl' hv rv) .nil)
theorem lm_insert {as : List (Bool × PV)} {l l' : List PV} {d : Addr} (e : insL l (as.map (·.2)) = some l') (hi : okItems (.list l) = true) (r : VRep prog w s.heap (fun b => b = d) (.list l) (.ref d)) :
    MethOf s "insert" (.ref d) fun id => ∀ h' tk cs pub (E : Value → Shared → Prop) (Q : Value → Shared → Prop), s.heap.StaysIn h' → VsRep prog w h' pub as cs →
      (∀ h'' tk', VRep prog w h'' (fun b => b = d) (.list l') (.ref d) → Heap.SameBut d h' h'' → Q .none { s with heap := h'', toks := tk' }) → wpAny (model prog w) A (call (.builtin id) (.ref d :: cs)) Q E { s with heap := h', toks := tk } := by
  obtain ⟨items, k, hl, ha⟩ := own_list r hi
  have hlen : l.length = items.size := (ha fun _ => True).length
  refine ⟨"list", "list.insert", F.plainAttrs_list, F.slot_list_insert, F.type_list_insert, ⟨_, hl, rfl⟩, fun a e => by cases e; exact ⟨_, hl, rfl⟩, fun h' tk cs pub E Q st vr q => ?_⟩
  obtain ⟨i, v, has, hv, hz, h0, h1, rfl⟩ := insL_is e
  have vr' := vr.all (q := false) nofun _ .T
  rw [has] at vr'
  obtain ⟨ci, cs, rfl, ri, rr⟩ := vr'.cons_inv
  obtain ⟨cv, cs, rfl, rv, rr⟩ := rr.cons_inv
  obtain rfl := rr.nil_inv
  obtain ⟨u, rfl⟩ := ri.int_inv
  have hl' := st _ _ hl
  have hz1 : l.length ≤ 1000000 := of_decide_eq_true hz
  have hfit : ¬(!Builtin.List.listFitsIndex i) = true := by simp [Builtin.List.listFitsIndex]; (first | lia | omega)
  refine call_meets F.slot_list_insert ⟨_, hl', rfl⟩ F.entry_list_insert (F.args_list_insert_3 _ _ _) (AutoListH.list_insert_list_int_val_1 d items k i u cv hfit (hlen ▸ szOk_le hz)) ⟨hl', q _ _ (own_new hl' ((ha fun _ => False).stays st fun _ x => x) fun ha' => ?_) (Heap.SameBut.update ..)⟩
  have hk : (if i < 0 then (i + ((items.size : Nat) : Int)).toNat else min i.toNat items.size) = i.toNat := by
    rw [if_neg (by (first | lia | omega))]; (first | lia | omega)
  have hlist : ((fun k => (items.extract 0 k).push cv ++ items.extract k) (if i < 0 then (i + ((items.size : Nat) : Int)).toNat else min i.toNat items.size)).toList = items.toList.take i.toNat ++ cv :: items.toList.drop i.toNat := by
    rw [hk]
    simp [List.take_of_length_le]
  rw [hlist]
  exact ((ha' _).take _).append (.cons (own_imm hl' hv rv) ((ha' _).drop _))
theorem leaf_lmeth {m : Str} {as : List (Bool × PV)} {l l' : List PV} {d : Addr} (_rm : Room A n) (e : methL m (as.map (·.2)) l = some l') (hi : okItems (.list l) = true) (r : VRep prog w s.heap (fun b => b = d) (.list l) (.ref d)) :
    MethOf s m (.ref d) fun id => ∀ h' tk cs pub (E : Value → Shared → Prop) (Q : Value → Shared → Prop), s.heap.StaysIn h' → VsRep prog w h' pub as cs →
      (∀ h'' tk', VRep prog w h'' (fun b => b = d) (.list l') (.ref d) → Heap.SameBut d h' h'' → Q .none { s with heap := h'', toks := tk' }) → wpAny (model prog w) A (call (.builtin id) (.ref d :: cs)) Q E { s with heap := h', toks := tk } := by
  rcases methL_is e with ⟨hm, e⟩ | ⟨hm, e⟩
  · obtain rfl := strEq_iff.mp hm
    exact lm_append e hi r
  · obtain rfl := strEq_iff.mp hm
    exact lm_insert e hi r

theorem leaf_bi2 {b : BI} {v1 v2 r : PV} {c1 c2 : Value} (rm : Room A n) (e : bi2 b v1 v2 = some r) (r1 : VRep prog w s.heap (fun _ => True) v1 c1) (r2 : VRep prog w s.heap (fun _ => True) v2 c2) : Gets prog w A s (call (biVal b) [c1, c2]) (Oks true pub) r := by
  cases b with
  | max =>
    obtain ⟨i, j, rfl, rfl, e⟩ := intPs_some e
    obtain ⟨t, rfl⟩ := r1.int_inv; obtain ⟨u, rfl⟩ := r2.int_inv
    cases e
    refine fun E Q q => PySem.max_two_ints rm.h fun h' tk k => ?_
    split
    · exact q _ h' tk k fun _ _ => by rw [if_pos (by omega)]; exact .int _ _
    · exact q _ h' tk k fun _ _ => by rw [if_neg (by omega)]; exact .int _ _
  | min =>
    obtain ⟨i, j, rfl, rfl, e⟩ := intPs_some e
    obtain ⟨t, rfl⟩ := r1.int_inv; obtain ⟨u, rfl⟩ := r2.int_inv
    cases e
    refine fun E Q q => PySem.min_two_ints rm.h fun h' tk k => ?_
    split
    · exact q _ h' tk k fun _ _ => by rw [if_pos (by omega)]; exact .int _ _
    · exact q _ h' tk k fun _ _ => by rw [if_neg (by omega)]; exact .int _ _
  | _ => exact noS e

theorem leaf_isi {v r : PV} {cv : Value} (e : isiP v = some r) (rv : VRep prog w s.heap (fun _ => True) v cv) : Gets prog w A s (call (.builtin "isinstance") [cv, .type "tuple"]) (Oks true pub) r := by
  cases v with
  | int i =>
    obtain ⟨t, rfl⟩ := rv.int_inv
    cases e
    exact fun E Q q => PySem.IsiPair.int_tuple (q _ s.heap _ (stays_refl _) fun _ _ => .bool _)
  | _ => exact noS e
end
end Mine

namespace Mine
open PySem PySem.Calls PyProof.Rows PySem.W PySem.SeqAt

section
variable {prog : Program} {w : World} {h : Heap} {A : Around} {s : Shared} {n : Nat} {pub : Pubs}

theorem letGo_plain {I : Addr} {o : Obj} {nm : String} {target : Expr} {v : Value} {E : Value → Shared → Prop} {Q : Unit → Shared → Prop} (ho : s.heap.get? I = some o) (hc : o.cls = .type nm)
    (hn : ["enumerate", "zip", "dict_itemiterator", "dict_reverseitemiterator", "odict_iterator", "itertools.zip_longest", "itertools.pairwise"].contains nm = false) (q : Q () s) : wpAny (model prog w) A (letOwnedTupleGo target (.ref I) v) Q E s := by
  have tail : ∀ a, wpAny (model prog w) A (do
      let o ← load I
      match o.cls, o.data with
      | .type n, .fields vs =>
        if ["enumerate", "zip", "dict_itemiterator", "dict_reverseitemiterator", "odict_iterator", "itertools.zip_longest", "itertools.pairwise"].contains n && vs[0]? == some (rawInt a) then
          rule "for.unpacks-the-owned-tuple"
          updateField I 0 .none
      | _, _ => pure ()) Q E s := fun a => by
    refine wpAny_bind (wpAny_load ho ?_)
    rw [hc]
    split
    · rename_i n vs e1 e2
      cases e1
      rw [hn, Bool.false_and, if_neg (by simp)]
      exact wpAny_pure q
    · exact wpAny_pure q
  unfold letOwnedTupleGo
  split
  · cases v with
    | ref a => exact tail a
    | _ => exact wpAny_pure q
  · cases v with
    | ref a => exact tail a
    | _ => exact wpAny_pure q
  · exact wpAny_pure q

theorem turns_walks {target : Expr} {I : Addr} {fp wr : List Addr} {P : Nat → Value → Prop} {St : Nat → Heap → Prop} {pi : Addr → Prop} {its : List PV} {vals : List Value} (W : Walks prog w A I fp wr its.length P St) (hP : ∀ i v, P i v → vals[i]? = some v)
    (hob : ∀ i h, St i h → ∀ a, a ∈ wr → ItOb h a) (hgo : ∀ i (s : Shared) v (E : Value → Shared → Prop) (Q : Unit → Shared → Prop), St i s.heap → Q () s → wpAny (model prog w) A (letOwnedTupleGo target (.ref I) v) Q E s) :
    Turns prog w A target I pi (fun a => a ∈ wr) (fun a => a ∈ fp ∧ a ∉ wr) its (fun i h => St i h ∧ VAll prog w h pi its vals) where
  frame := fun V i h h' hpi hwr hdep kp st => ⟨W.frame i h h' st.1 fun b hb o e => kp b o e (.inl (by
    by_cases hbw : b ∈ wr
    · exact hwr b hbw
    · exact hdep b ⟨hb, hbw⟩)), st.2.kp kp fun a o => ⟨hpi a o, o⟩⟩
  it := fun i h a st ha => hob i h st.1 a ha
  item := fun i x s E Q hx st q => by
    have hlt : i < its.length := (List.getElem?_eq_some_iff.mp hx).1
    refine W.item i s _ E hlt st.1 fun v h' tk hv st' k => ⟨v, rfl, ?_⟩
    have va : VAll prog w h' pi its vals := st.2.here.kp (kp_its (fun a e => hob i s.heap st.1 a e) k) fun a o => ⟨fun hm => ItOb.not o.2.mut (hob i s.heap st.1 a hm), o.1⟩
    obtain ⟨v', hv', hr⟩ := va.get hx
    rw [hP i v hv] at hv'; cases hv'
    exact hgo (i + 1) { s with heap := h', toks := tk } v E (fun _ s₂ => Q v s₂) st' (q v h' tk hr ⟨st', va⟩ k)
  done := fun s E Q st q => W.done s Q E st.1 fun h' tk k => q h' tk k
  self := fun i s E Q st q => W.self i s Q E st.1 q

theorem pack_list {pl dk : Addr → Prop} {target : Expr} {l : List PV} {a : Addr} {items : Array Value} {E : Value → Shared → Prop} {Q : Value → Shared → Prop} (rm : Room A n) (hl : s.heap.PlainList a items) (hd : dk a) (va : VAll prog w s.heap pl l items.toList)
    (q : ∀ it s', Pack prog w A s target pl dk l it s' → Q it s') : wpAny (model prog w) A (pyIter (.ref a)) Q E s := by
  have hlen : l.length = items.size := by have := va.length; simpa using this
  have hne : a ≠ s.heap.objs.size := by obtain ⟨m, e⟩ := hl; exact Nat.ne_of_lt (Heap.lt_size e)
  have st := stays_push s.heap { cls := .type "list_iterator", data := .fields #[.ref a, .int 0 0] }
  have hex : ∀ h' : Heap, s.heap.StaysIn h' → h'.get? a ≠ none := fun h' st => by obtain ⟨m, e⟩ := hl; rw [st _ _ e]; simp
  have W := Walks.list (prog := prog) (w := w) (A := A) rm.h s.heap.objs.size a hne items
  rw [← hlen] at W
  refine wpAny_pyIter_list hl.isList (q _ _ ⟨_, _, _, _, _, s.toks, rfl, rfl, st, turns_walks (vals := items.toList) W (fun i v h => by simpa using h) (fun i h x b hb => ?_) (fun i s v E Q x q => ?_), ⟨⟨⟨_, Heap.get?_push_size _ rfl, rfl, rfl⟩, hl.isList.push _⟩, (va.exist.stays st fun b o => ⟨o.1, fun e => o.2 (none_of_stays st e)⟩)⟩, fun b hb => ?_, fun b hb => ?_⟩)
  · rw [List.mem_singleton.mp hb]; obtain ⟨o, ho, _, hd⟩ := x.1; exact ⟨o, _, ho, hd⟩
  · obtain ⟨o, ho, hc, _⟩ := x.1; exact letGo_plain ho hc (by decide) q
  · rw [List.mem_singleton.mp hb]; exact fresh_none _
  · obtain ⟨hb1, hb2⟩ := hb
    have : b = a := by
      rcases List.mem_cons.mp hb1 with e | e
      · exact absurd (by simp [e]) hb2
      · exact List.mem_singleton.mp e
    subst this
    exact ⟨hex _ st, .inr hd⟩
end
end Mine

namespace Mine
open PySem PySem.Calls PyProof.Rows PySem.W PySem.SeqAt

section
variable {prog : Program} {w : World} {h : Heap} {A : Around} {s : Shared} {n : Nat} {pub : Pubs}

theorem turns_walks2 {target : Expr} {I : Addr} {fp wr : List Addr} {P : Nat → Value → Prop} {St : Nat → Heap → Prop} {pi : Addr → Prop} {its : List PV} {X : Heap → Prop} (W : Walks prog w A I fp wr its.length P St)
    (hP : ∀ i v x h, X h → its[i]? = some x → P i v → VRep prog w h pi x v)
    (hX : ∀ (V : Addr → Prop) h h', X h → (∀ a, pi a → Cont h a → ¬ V a) → Kp V h h' → X h')
    (hob : ∀ i h, St i h → ∀ a, a ∈ wr → ItOb h a) (hgo : ∀ i (s : Shared) v (E : Value → Shared → Prop) (Q : Unit → Shared → Prop), St i s.heap → Q () s → wpAny (model prog w) A (letOwnedTupleGo target (.ref I) v) (fun _ => Q ()) E s)
    (hfp : ∀ i h, St i h → ∀ b ∈ fp, b ∈ wr ∨ ∃ o, h.get? b = some o ∧ isTupObj o) :
    Turns prog w A target I pi (fun a => a ∈ wr) (fun _ => False) its (fun i h => St i h ∧ X h) where
  frame := fun V i h h' hpi hwr _ kp st => ⟨W.frame i h h' st.1 fun b hb o e => kp b o e (by
    rcases hfp i h st.1 b hb with hbw | ⟨o', e', t⟩
    · exact .inl (hwr b hbw)
    · rw [e] at e'; cases e'; exact .inr t), hX V h h' st.2 (fun a o _ => hpi a o) kp⟩
  it := fun i h a st ha => hob i h st.1 a ha
  item := fun i x s E Q hx st q => by
    have hlt : i < its.length := (List.getElem?_eq_some_iff.mp hx).1
    refine W.item i s _ E hlt st.1 fun v h' tk hv st' k => ⟨v, rfl, ?_⟩
    have x' : X h' := hX (fun a => a ∈ wr) s.heap h' st.2 (fun a _ hc hm => ItOb.not hc.mut (hob i s.heap st.1 a hm)) (kp_its (fun a e => hob i s.heap st.1 a e) k)
    exact hgo (i + 1) { s with heap := h', toks := tk } v E (fun _ s₂ => Q v s₂) st' (q v h' tk (hP i v x h' x' hx hv) ⟨st', x'⟩ k)
  done := fun s E Q st q => W.done s Q E st.1 fun h' tk k => q h' tk k
  self := fun i s E Q st q => W.self i s Q E st.1 q

theorem pack_tup {pl dk : Addr → Prop} {target : Expr} {l : List PV} {a : Addr} {items : Array Value} {E : Value → Shared → Prop} {Q : Value → Shared → Prop} (rm : Room A n) (hl : PlainTup s.heap a items) (va : VAll prog w s.heap pl l items.toList)
    (q : ∀ it s', Pack prog w A s target pl dk l it s' → Q it s') : wpAny (model prog w) A (pyIter (.ref a)) Q E s := by
  have hlen : l.length = items.size := by have := va.length; simpa using this
  obtain ⟨m, hl⟩ := hl
  have hne : a ≠ s.heap.objs.size := Nat.ne_of_lt (Heap.lt_size hl)
  have st := stays_push s.heap { cls := .type "tuple_iterator", data := .fields #[.ref a, .int 0 0] }
  have W := Walks.tuple (prog := prog) (w := w) (A := A) rm.h s.heap.objs.size a hne items
  rw [← hlen] at W
  refine wpAny_pyIter_tuple ⟨_, hl, rfl, m, rfl⟩ (q _ _ ⟨_, _, _, _, _, s.toks, rfl, rfl, st, turns_walks2 (X := fun h => VAll prog w h (fun b => pl b ∧ (s.heap.push { cls := .type "tuple_iterator", data := .fields #[.ref a, .int 0 0] }).get? b ≠ none) l items.toList) W (fun i v x h va hx hv => ?_) (fun V h h' va hV kp => va.here.kp kp fun b o => ⟨hV b o.1 o.2, o.1⟩) (fun i h x b hb => ?_) (fun i s v E Q x q => ?_) (fun i h x b hb => ?_),
    ⟨⟨⟨_, Heap.get?_push_size _ rfl, rfl, rfl⟩, ⟨_, st _ _ hl, rfl, m, rfl⟩⟩, (va.exist.stays st fun b o => ⟨o.1, fun e => o.2 (none_of_stays st e)⟩)⟩, fun b hb => ?_, fun b hb => hb.elim⟩)
  · obtain ⟨v', h1, h2⟩ := va.get hx
    have hv' : items.toList[i]? = some v := by simpa using hv
    rw [hv'] at h1; cases h1; exact h2
  · rw [List.mem_singleton.mp hb]; obtain ⟨o, ho, _, hd⟩ := x.1; exact ⟨o, _, ho, hd⟩
  · obtain ⟨o, ho, hc, _⟩ := x.1; exact letGo_plain ho hc (by decide) q
  · rcases List.mem_cons.mp hb with e | e
    · exact .inl (by simp [e])
    · rw [List.mem_singleton.mp e]
      obtain ⟨o, ho, hc, k, hd⟩ := x.2
      exact .inr ⟨o, ho, hc, _, _, hd⟩
  · rw [List.mem_singleton.mp hb]; exact fresh_none _

end
end Mine

namespace Mine
open PySem PySem.Calls PyProof.Rows PySem.W PySem.SeqAt

section
variable {prog : Program} {w : World} {h : Heap} {A : Around} {s : Shared} {n : Nat} {pub : Pubs}

theorem pack_range {pl dk : Addr → Prop} {target : Expr} {its : List PV} {r : Addr} {a b c : Int} {t u v : Tok} {E : Value → Shared → Prop} {Q : Value → Shared → Prop} (rm : Room A n) (hr : IsRange s.heap r a b c t u v) (hsmall : Builtin.Range.small a b c = true)
    (hlen : Builtin.Range.rangeSize a b c = its.length) (hits : ∀ (i : Nat) (x : PV), its[i]? = some x → x = .int (a + i * c))
    (q : ∀ it s', Pack prog w A s target pl dk its it s' → Q it s') : wpAny (model prog w) A (pyIter (.ref r)) Q E s := by
  have st := stays_push s.heap { cls := .type "range_iterator", data := .fields #[rawInt a, rawInt (Builtin.Range.rangeSize a b c), rawInt c] }
  have W := Walks.range (prog := prog) (w := w) (A := A) rm.h s.heap.objs.size a c its.length
  refine wpAny_pyIter_range hr hsmall (q _ _ ⟨_, _, _, _, _, s.toks, rfl, rfl, st, turns_walks2 (X := fun _ => True) W (fun i v x h _ hx hv => ?_) (fun _ _ _ _ _ _ => trivial) (fun i h z b hb => ?_) (fun i s v E Q z q => ?_) (fun i h z b hb => .inl hb), ⟨?_, trivial⟩, fun b hb => ?_, fun b hb => hb.elim⟩)
  · obtain ⟨tk, rfl⟩ := hv
    rw [hits i x hx]; exact .int _ _
  · rw [List.mem_singleton.mp hb]; exact ⟨_, _, z, rfl⟩
  · exact letGo_plain z rfl (by decide) q
  · have := Heap.get?_push_size s.heap (o := { cls := .type "range_iterator", data := .fields #[rawInt a, rawInt (Builtin.Range.rangeSize a b c), rawInt c] }) rfl
    rw [hlen] at this ⊢
    simpa using this
  · rw [List.mem_singleton.mp hb]; exact fresh_none _

theorem up_get {a b : Int} {i : Nat} {x : PV} (h : (rangeUp a b)[i]? = some x) : x = .int (a + i * 1) := by
  unfold rangeUp at h
  rw [List.getElem?_map] at h
  cases q : (List.range (b - a).toNat)[i]? with
  | none => rw [q] at h; cases h
  | some k =>
    rw [q] at h; cases h
    have := List.getElem?_eq_some_iff.mp q
    obtain ⟨h1, h2⟩ := this
    simp at h2; subst h2; simp
theorem down_get {a b : Int} {i : Nat} {x : PV} (h : (rangeDown a b)[i]? = some x) : x = .int (a + i * -1) := by
  unfold rangeDown at h
  rw [List.getElem?_map] at h
  cases q : (List.range (a - b).toNat)[i]? with
  | none => rw [q] at h; cases h
  | some k =>
    rw [q] at h; cases h
    have := List.getElem?_eq_some_iff.mp q
    obtain ⟨h1, h2⟩ := this
    simp at h2; subst h2
    have e : a - (i : Int) = a + (i : Int) * -1 := by rw [Int.mul_neg, Int.mul_one]; rfl
    rw [← e]

inductive RangeS : List PV → List PV → Prop
  | one {b : Int} (h : smallI b = true) : RangeS [.int b] (rangeUp 0 b)
  | two {a b : Int} (h : smallI a = true) (h2 : smallI b = true) : RangeS [.int a, .int b] (rangeUp a b)
  | down {a b : Int} (h : smallI a = true) (h2 : smallI b = true) : RangeS [.int a, .int b, .int (-1)] (rangeDown a b)
theorem range_cases {vs its : List PV} (e : evalRange vs = some its) : RangeS vs its := by
  match vs, e with
  | [], e => exact noS e
  | [x], e =>
    obtain ⟨a, ha, e⟩ := bnd e
    rw [intP_eq ha]
    obtain ⟨h, rfl⟩ := ifS e
    exact .one h
  | [x, y], e =>
    obtain ⟨a, ha, e⟩ := bnd e
    obtain ⟨b, hb, e⟩ := bnd e
    rw [intP_eq ha, intP_eq hb]
    obtain ⟨h, rfl⟩ := ifS e
    exact .two (two h).1 (two h).2
  | [x, y, z], e =>
    obtain ⟨a, ha, e⟩ := bnd e
    obtain ⟨b, hb, e⟩ := bnd e
    obtain ⟨c, hc, e⟩ := bnd e
    rw [intP_eq ha, intP_eq hb, intP_eq hc]
    obtain ⟨h, rfl⟩ := ifS e
    obtain ⟨h4, h3⟩ := two h
    obtain rfl := eq_of_beq h3
    exact .down (two h4).1 (two h4).2
  | x :: y :: z :: _ :: _, e =>
    obtain ⟨a, ha, e⟩ := bnd e
    obtain ⟨b, hb, e⟩ := bnd e
    exact noS e

theorem call_range {vs its : List PV} {cs : List Value} {E : Value → Shared → Prop} {Q : Value → Shared → Prop} (e : evalRange vs = some its) (va : VAll prog w s.heap (fun _ => True) vs cs)
    (q : ∀ r a b c t u v h' tk, s.heap.StaysIn h' → IsRange h' r a b c t u v → Builtin.Range.small a b c = true → Builtin.Range.rangeSize a b c = its.length → (∀ (i : Nat) (x : PV), its[i]? = some x → x = .int (a + i * c)) → -(2 ^ 62 : Int) < a → a < 2 ^ 62 → Q (.ref r) { s with heap := h', toks := tk }) :
    wpAny (model prog w) A (call (.type "range") cs) Q E s := by
  have up : ∀ a b : Int, Builtin.Range.rangeSize a b 1 = (rangeUp a b).length := fun a b => by
    simp [rangeUp, Builtin.Range.rangeSize]
    try (first | lia | omega)
  have dn : ∀ a b : Int, Builtin.Range.rangeSize a b (-1) = (rangeDown a b).length := fun a b => by
    simp [rangeDown, Builtin.Range.rangeSize]
    try (first | lia | omega)
  have sm : ∀ a b c : Int, smallI a = true → smallI b = true → (c = 1 ∨ c = -1) → Builtin.Range.small a b c = true := fun a b c h1 h2 hc => by
    have h1 := smallI_bounds h1
    have h2 := smallI_bounds h2
    rcases hc with rfl | rfl
    · simp [Builtin.Range.small, Builtin.Range.rangeFitsLong, Builtin.Range.rangeSize]
      split <;> (first | lia | omega)
    · simp [Builtin.Range.small, Builtin.Range.rangeFitsLong, Builtin.Range.rangeSize]
      split <;> (first | lia | omega)
  cases range_cases e with
  | one hb =>
    obtain ⟨_, _, rfl, r1, rr⟩ := va.cons_inv
    obtain rfl := rr.nil_inv
    obtain ⟨t, rfl⟩ := r1.int_inv
    exact call_range_1 (q _ 0 _ 1 _ _ _ _ _ (stays_push _ _) (IsRange.new ..) (sm 0 _ 1 (by decide) hb (.inl rfl)) (up 0 _) (fun i x hx => up_get hx) (by decide) (by decide))
  | two ha hb =>
    have h1 := smallI_bounds ha
    obtain ⟨_, _, rfl, r1, rr⟩ := va.cons_inv
    obtain ⟨_, _, rfl, r2, rr⟩ := rr.cons_inv
    obtain rfl := rr.nil_inv
    obtain ⟨t, rfl⟩ := r1.int_inv
    obtain ⟨u, rfl⟩ := r2.int_inv
    exact call_range_2 (q _ _ _ 1 _ _ _ _ _ (stays_push _ _) (IsRange.new ..) (sm _ _ 1 ha hb (.inl rfl)) (up _ _) (fun i x hx => up_get hx) h1.1 h1.2)
  | down ha hb =>
    have h1 := smallI_bounds ha
    obtain ⟨_, _, rfl, r1, rr⟩ := va.cons_inv
    obtain ⟨_, _, rfl, r2, rr⟩ := rr.cons_inv
    obtain ⟨_, _, rfl, r3, rr⟩ := rr.cons_inv
    obtain rfl := rr.nil_inv
    obtain ⟨t, rfl⟩ := r1.int_inv
    obtain ⟨u, rfl⟩ := r2.int_inv
    obtain ⟨v, rfl⟩ := r3.int_inv
    exact call_range_3 (by decide) (q _ _ _ (-1) _ _ _ _ _ (stays_push _ _) (IsRange.new ..) (sm _ _ (-1) ha hb (.inr rfl)) (dn _ _) (fun i x hx => down_get hx) h1.1 h1.2) (.inl (noPylong (by decide)))

theorem leaf_iterRange {vs : List PV} {its : List PV} {cs : List Value} {target : Expr} {E : Value → Shared → Prop} {Q : Value → Shared → Prop} (rm : Room A n) (e : evalRange vs = some its) (va : VAll prog w s.heap (fun _ => True) vs cs)
    (q : ∀ it s', Pack prog w A s target pub.p pub.nw its it s' → Q it s') : wpAny (model prog w) A (call (.type "range") cs) (fun cv s₁ => wpAny (model prog w) A (pyIter cv) Q E s₁) E s :=
  call_range e va fun r a b c t u v h' tk st hr hs hl hi _ _ => pack_range (s := { s with heap := h', toks := tk }) rm hr hs hl hi fun it s' pk => q it s' (by
    obtain ⟨I, wr, dep, St, h2, tk2, rfl, rfl, st', W, st0, hwr, hdep⟩ := pk
    exact ⟨I, wr, dep, St, h2, tk2, rfl, rfl, stays_trans st st', W, st0, fun a o => none_of_stays st (hwr a o), fun a o => ⟨(hdep a o).1, (hdep a o).2.imp (none_of_stays st) id⟩⟩)
end
end Mine

namespace Mine
open PySem PySem.Calls PyProof.Rows PySem.W PySem.SeqAt
open MeetsSeq

section
variable {prog : Program} {w : World} {h : Heap} {A : Around} {s : Shared} {n : Nat} {pub : Pubs}

theorem szOk_small {n : Nat} (h : szOk n = true) : n ≤ 1000000 := by simpa [szOk] using h

theorem vall_of {ok : Addr → Prop} : ∀ {l : List PV} {vs : List Value}, l.length = vs.length → (∀ (i : Nat) x v, l[i]? = some x → vs[i]? = some v → VRep prog w h ok x v) → VAll prog w h ok l vs
  | [], [], _, _ => .nil
  | x :: l, v :: vs, hl, hp => .cons (hp 0 x v rfl rfl) (vall_of (by simpa using hl) fun i x v h1 h2 => hp (i + 1) x v (by simpa using h1) (by simpa using h2))
  | [], _ :: _, hl, _ => by simp at hl
  | _ :: _, [], hl, _ => by simp at hl

theorem leaf_ofRange {vs : List PV} {l : List PV} {r : PV} {b : BI} {cs : List Value} {E : Value → Shared → Prop} {Q : Value → Shared → Prop} (rm : Room A n) (hb : b = .list) (e : evalRange vs = some l) (hr : biIt b l = some r) (va : VAll prog w s.heap (fun _ => True) vs cs) (F : ∀ b, s.heap.get? b = none → pub.p b)
    (q : ∀ cv h' tk, s.heap.StaysIn h' → (∀ ok, Oks true pub ok → VRep prog w h' ok r cv) → Q cv { s with heap := h', toks := tk }) : wpAny (model prog w) A (call (.type "range") cs) (fun cv s₁ => wpAny (model prog w) A (call (biVal b) [cv]) Q E s₁) E s := by
  subst hb
  refine call_range e va fun rg a b c t u v h1 tk1 st hrg hs hl hi _ _ => ?_
  have hr' : (if szOk l.length = true then some (PV.list l) else none) = some r := hr
  split at hr'
  · rename_i hz
    cases hr'
    refine call_list_range (s := { s with heap := h1, toks := tk1 }) (n := l.length) rm.h hrg hs hl (by have := szOk_small hz; (first | lia | omega)) fun h2 tk2 acc c' st2 hnew hit => ?_
    refine q _ h2 tk2 (stays_trans st st2) fun ok o => .list ?_ ⟨c', hnew⟩ ?_
    · exact Oks.fresh (s := s) F ok o _ (none_of_stays st (fresh_none h1))
    · refine vall_of (by have := hit.1; simp; (first | lia | omega)) fun i x v hx hv => ?_
      obtain ⟨t', rfl⟩ := hit.2 i v (by simpa using hv)
      rw [hi i x hx]; exact .int _ _
  · cases hr'
theorem len_list {l : List PV} {r : PV} {cv : Value} (e : lenP (.list l) = some r) (rv : VRep prog w s.heap (fun _ => True) (.list l) cv) : Gets prog w A s (call (.builtin "len") [cv]) (Oks true pub) r := by
  have e' : (if szOk l.length = true then some (PV.int l.length) else none) = some r := e
  split at e'
  · rename_i hz
    cases e'
    cases rv with | list o hl ha =>
    rename_i a items
    have hlen : l.length = items.size := by have := ha.length; simpa using this
    have := szOk_small hz
    refine fun E Q q => call_len_list hl.isList (by omega) ?_
    rw [← hlen]
    exact q _ s.heap _ (stays_refl _) fun _ _ => .int _ _
  · cases e'
theorem len_tup {l : List PV} {r : PV} {cv : Value} (e : lenP (.tup l) = some r) (rv : VRep prog w s.heap (fun _ => True) (.tup l) cv) : Gets prog w A s (call (.builtin "len") [cv]) (Oks true pub) r := by
  have e' : (if szOk l.length = true then some (PV.int l.length) else none) = some r := e
  split at e'
  · rename_i hz
    cases e'
    cases rv with | tup hl ha =>
    rename_i a items
    obtain ⟨m, hl⟩ := hl
    have hlen : l.length = items.size := by have := ha.length; simpa using this
    have := szOk_small hz
    refine fun E Q q => call_len_meets (T := "tuple") ⟨_, hl, rfl⟩ F.slot_tuple_len F.entry_tuple_len (F.args_tuple_len_1 _) (AutoSeq1.tuple___len___tuple_0 a items m) (n := items.size) (by (first | lia | omega)) (by (first | lia | omega)) (fun Q' h => ⟨hl, h⟩) ?_
    rw [← hlen]
    exact q _ s.heap _ (stays_refl _) fun _ _ => .int _ _
  · cases e'
theorem list_of_tup {p : Bool} {l : List PV} {r : PV} {cv : Value} (F : ∀ b, s.heap.get? b = none → pub.p b) (e : biV .list (p, .tup l) = some r) (rv : ∀ ok, Oks p pub ok → VRep prog w s.heap ok (.tup l) cv) : Gets prog w A s (call (.type "list") [cv]) (Oks true pub) r := by
  have e' : (if ((p || PV.imms l) && szOk l.length) = true then some (PV.list l) else none) = some r := e
  split at e'
  · rename_i hc
    simp only [Bool.and_eq_true] at hc
    cases e'
    have it := itOf (q := true) rv (fun _ _ q => by cases q) fun _ => hc.1
    obtain ⟨a, items, rfl, ⟨m, hl⟩, ha⟩ := VIt.tups .T it
    have hlen : l.length = items.size := by have := (ha _ .T).length; simpa using this
    have := szOk_small hc.2
    refine fun E Q q => call_list_seq a (.inr rfl) hl rfl rfl (fun h' c' st hn => q _ h' s.toks st fun ok o => .list (Oks.fresh F ok o _ (fresh_none _)) ⟨c', hn⟩ ((ha ok o).stays st fun _ x => x)) (by rw [sizeLine_eq]; (first | lia | omega))
  · cases e'
theorem tup_of_list {p : Bool} {l : List PV} {r : PV} {cv : Value} (e : biV .tuple (p, .list l) = some r) (rv : ∀ ok, Oks p pub ok → VRep prog w s.heap ok (.list l) cv) : Gets prog w A s (call (.type "tuple") [cv]) (Oks true pub) r := by
  have e' : (if ((p || PV.imms l) && szOk l.length) = true then some (PV.tup l) else none) = some r := e
  split at e'
  · rename_i hc
    simp only [Bool.and_eq_true] at hc
    cases e'
    have it := itOf (q := true) rv (fun _ _ q => by cases q) fun _ => hc.1
    obtain ⟨a, items, rfl, hl, ha⟩ := VIt.lists .T it
    have hlen : l.length = items.size := by have := (ha _ .T).length; simpa using this
    have := szOk_small hc.2
    refine fun E Q q => call_tuple_list hl.isList (fun h' st => q _ _ s.toks (stays_trans st (stays_push _ _)) fun ok o => .tup ⟨0, Heap.get?_push_size _ rfl⟩ (((ha ok o).stays st fun _ x => x).stays (stays_push _ _) fun _ x => x)) (by rw [sizeLine_eq]; (first | lia | omega))
  · cases e'
end
end Mine

namespace Mine
open PySem PySem.Calls PyProof.Rows PySem.W PySem.SeqAt
open AutoSeq1 (wpAny_loadPart')
open MeetsSeq MeetsSeq2 MeetsSeq3 SeqRoads2

section
variable {prog : Program} {w : World} {h : Heap} {A : Around} {E : Value → Shared → Prop} {s : Shared} {n : Nat} {pub : Pubs}

theorem collect_range {Q : List Value → Shared → Prop} {r : Addr} {a b c : Int} {t u v : Tok} {k : Nat} (hh : A.handled = none) (hr : IsRange s.heap r a b c t u v) (hs : Builtin.Range.small a b c = true) (hn : Builtin.Range.rangeSize a b c = k) (hk : k ≤ 2 ^ 24)
    (q : ∀ h' tk (acc : Array Value), s.heap.StaysIn h' → ItemsOf (fun i v => ∃ t, v = .int (a + i * c) t) acc k → Q acc.toList { s with heap := h', toks := tk }) : wpAny (model prog w) A (collect (.ref r)) Q E s := by
  unfold collect
  refine wpAny_bind (wpAny_runValue (codeAny_builtin F.entry_proto_collect ?_))
  rw [Around.under_plainId F.plain_proto_collect _]
  show wpAny _ A.in1 (newList [] >>= fun l => again (.builtin "list.__iadd__" ⟨[l, .ref r], []⟩)) _ _ s
  refine wpAny_bind (wpAny_newObj_type ?_)
  refine wpAny_pure ⟨plainId_quiet F.plain_list_iadd _, codeAny_builtin F.entry_list_iadd ?_⟩
  rw [Around.under_plainId F.plain_list_iadd _]
  show wpAny _ A.in1 (Builtin.List.listExtendWith (.ref s.heap.objs.size) (.ref r) (.ref s.heap.objs.size)) _ _ _
  have hS : (s.heap.push { cls := .type "list", data := .seq ([] : List Value).toArray }).get? s.heap.objs.size = some { cls := .type "list", data := .seq #[] 0 } := Heap.get?_push_size _ rfl
  have hne : ∀ b o, s.heap.get? b = some o → b ≠ s.heap.objs.size := fun b o e => Nat.ne_of_lt (Heap.lt_size e)
  have fin' : ∀ (h' : Heap) (tk : Nat) (acc : Array Value) (c' : Nat), (∀ b o, b ≠ s.heap.objs.size → (s.heap.push { cls := .type "list", data := .seq ([] : List Value).toArray }).get? b = some o → h'.get? b = some o) →
      h'.get? s.heap.objs.size = some { cls := .type "list", dict := none, data := .seq acc c', slots := #[] } → ItemsOf (fun i v => ∃ t, v = .int (a + i * c) t) acc k → wpAny (model prog w) A (match Value.ref s.heap.objs.size with
      | Value.ref a => do
        match (← load a).data with
          | Data.seq xs _ => pure xs.toList
          | _ => unsupported "internal:collect"
      | _ => unsupported "internal:collect") Q E { s with heap := h', toks := tk } := fun h' tk acc c' kp hl hi => by
    show wpAny _ A (load s.heap.objs.size >>= _) _ _ _
    refine wpAny_bind (wpAny_load hl ?_)
    exact wpAny_pure (q h' tk acc (fun b o e => kp b o (hne b o e) (Heap.get?_push_of_some _ e)) hi)
  refine wpAny_mono (wpAny_extend_range (A := A) (R := fun r' s' => ∃ h' tk acc c', r' = .ok (.ret (.ref s.heap.objs.size)) ∧ s' = { s with heap := h', toks := tk } ∧ (∀ b o, b ≠ s.heap.objs.size → (s.heap.push { cls := .type "list", data := .seq ([] : List Value).toArray }).get? b = some o → h'.get? b = some o) ∧
      h'.get? s.heap.objs.size = some { cls := .type "list", dict := none, data := .seq acc c', slots := #[] } ∧ ItemsOf (fun i v => ∃ t, v = .int (a + i * c) t) acc k)
    (s := { s with heap := s.heap.push { cls := .type "list", data := .seq ([] : List Value).toArray } }) hh (Heap.get?_push_of_some _ hr) hs hn hk _ _ 0 hS fun h' tk acc c' kp hl hi => ⟨h', tk, acc, c', rfl, rfl, kp, hl, hi⟩) (fun fin s' x => ?_) (fun e s' x => ?_)
  · cases fin with
    | done f =>
      obtain ⟨h', tk, acc, c', e, rfl, kp, hl, hi⟩ := x
      cases e
      exact fin' h' tk acc c' kp hl hi
    | again c' => exact ⟨x.1, codeAny_mono x.2 fun r'' s'' hr'' => by obtain ⟨h', tk, acc, c', e, rfl, kp, hl, hi⟩ := hr''; cases e; exact fin' h' tk acc c' kp hl hi⟩
  · obtain ⟨h', tk, acc, c', e, _⟩ := x
    cases e

theorem meets_tuple_range {r : Addr} {a b c : Int} {t u v : Tok} {k : Nat} (hs : Builtin.Range.small a b c = true) (hn : Builtin.Range.rangeSize a b c = k) (hk : k ≤ 1000000) :
    Meets (Builtin.«tuple.__new__» ⟨[.type "tuple", .ref r], []⟩) (fun A R s => A.handled = none ∧ IsRange s.heap r a b c t u v ∧ ∀ (h' : Heap) (tk : Nat) (acc : Array Value), s.heap.StaysIn h' → ItemsOf (fun i v => ∃ t, v = .int (a + i * c) t) acc k →
      R (.ok (.ret (.ref h'.objs.size))) { s with heap := h'.push { cls := .type "tuple", data := .seq acc }, toks := tk }) :=
  .of_wp fun prog w A R s h => by
    obtain ⟨hp, g, d, tk, os⟩ := s; obtain ⟨hh, hr, h⟩ := h
    have hsub := sub_tuple_self
    have hinit := init_tuple_lookup
    have hmh := madeHere_tuple
    have hh1 : A.in1.handled = none := hh
    have hT : Shared.TypeIs ⟨hp, g, d, tk, os⟩ (.ref r) "range" := ⟨_, hr, rfl⟩
    have hk' : k ≤ 2 ^ 24 := by (first | lia | omega)
    wp_walk using wpAny_loadPart' hr, wpAny_typeOf hT, collect_range hh1 hr hs hn hk'
    intro h' tk' acc st hacc
    show wpAny _ _ (Builtin.Tuple.tupleExact acc.toList.toArray >>= fun v => ret v) _ _ _
    unfold Builtin.Tuple.tupleExact
    refine wpAny_bind (wpAny_newObj_type ?_ (show acc.toList.toArray.size ≤ sizeLine by simp only [Array.toArray_toList]; rw [hacc.1, sizeLine_eq]; (first | lia | omega)))
    refine wpAny_pure ⟨_, rfl, ?_⟩
    have e : acc.toList.toArray = acc := by simp
    rw [e]
    exact h h' tk' acc st hacc
end
end Mine

namespace Mine
open PySem PySem.Calls PyProof.Rows PySem.W PySem.SeqAt

section
variable {prog : Program} {w : World} {h : Heap} {A : Around} {s : Shared} {n : Nat} {pub : Pubs}

theorem call_tuple_range {r : Addr} {a b c : Int} {t u v : Tok} {k : Nat} {E : Value → Shared → Prop} {Q : Value → Shared → Prop} (hh : A.handled = none) (hr : IsRange s.heap r a b c t u v) (hs : Builtin.Range.small a b c = true) (hn : Builtin.Range.rangeSize a b c = k) (hk : k ≤ 1000000)
    (q : ∀ (h' : Heap) (tk : Nat) (acc : Array Value), s.heap.StaysIn h' → ItemsOf (fun i v => ∃ t, v = .int (a + i * c) t) acc k → Q (.ref h'.objs.size) { s with heap := h'.push { cls := .type "tuple", data := .seq acc }, toks := tk }) :
    wpAny (model prog w) A (call (.type "tuple") [.ref r]) Q E s :=
  callType_new F.called_tuple (by decide) (F.typeCall_tuple_1 _) (F.newCall_tuple_1 _) (fun obj => F.args_object_init_2 obj _) F.entry_tuple_new
    (meets_tuple_range (t := t) (u := u) (v := v) hs hn hk) ⟨hh, hr, fun h' tk acc st hi => ⟨⟨_, Heap.get?_push_size _ rfl, rfl⟩, q h' tk acc st hi⟩⟩

theorem leaf_ofRange2 {vs : List PV} {l : List PV} {r : PV} {b : BI} {cs : List Value} {E : Value → Shared → Prop} {Q : Value → Shared → Prop} (rm : Room A n) (hb : b = .list ∨ b = .tuple) (e : evalRange vs = some l) (hr : biIt b l = some r) (va : VAll prog w s.heap (fun _ => True) vs cs) (F : ∀ b, s.heap.get? b = none → pub.p b)
    (q : ∀ cv h' tk, s.heap.StaysIn h' → (∀ ok, Oks true pub ok → VRep prog w h' ok r cv) → Q cv { s with heap := h', toks := tk }) : wpAny (model prog w) A (call (.type "range") cs) (fun cv s₁ => wpAny (model prog w) A (call (biVal b) [cv]) Q E s₁) E s := by
  rcases hb with rfl | rfl
  · exact leaf_ofRange rm rfl e hr va F q
  · refine call_range e va fun rg a b c t u v h1 tk1 st hrg hs hl hi _ _ => ?_
    have hr' : (if szOk l.length = true then some (PV.tup l) else none) = some r := hr
    split at hr'
    · rename_i hz
      cases hr'
      refine call_tuple_range (s := { s with heap := h1, toks := tk1 }) (k := l.length) rm.h hrg hs hl (szOk_small hz) fun h2 tk2 acc st2 hit => ?_
      refine q _ _ tk2 (stays_trans (stays_trans st st2) (stays_push _ _)) fun ok o => .tup ⟨0, Heap.get?_push_size _ rfl⟩ ?_
      refine vall_of (by have := hit.1; simp; (first | lia | omega)) fun i x v hx hv => ?_
      obtain ⟨t', rfl⟩ := hit.2 i v (by simpa using hv)
      rw [hi i x hx]; exact .int _ _
    · cases hr'
theorem iterV_seq {a : Bool × PV} {its : List PV} {cv : Value} {target : Expr} {E : Value → Shared → Prop} {Q : Value → Shared → Prop} (rm : Room A n) (e : itemsP a = some its) (hnd : ∀ ks vs, a.2 ≠ .dict ks vs) (rv : ∀ ok, Oks a.1 pub ok → VRep prog w s.heap ok a.2 cv)
    (q : ∀ it s', Pack prog w A s target pub.p pub.nw its it s' → Q it s') : wpAny (model prog w) A (pyIter cv) Q E s := by
  obtain ⟨p, v⟩ := a
  have items : ∀ {l : List PV} {vs : List Value} (hc : (p || PV.imms l) = true), VAll prog w s.heap (fun _ => True) l vs → (p = true → VAll prog w s.heap pub.p l vs) → VAll prog w s.heap pub.p l vs := fun {l vs} hc h1 h2 => by
    simp only [Bool.or_eq_true] at hc
    rcases hc with hc | hc
    · exact h2 hc
    · exact imms_any hc h1
  cases v with
  | list l =>
    have e' : (if (p || PV.imms l) = true then some l else none) = some its := e
    split at e'
    · rename_i hc
      cases e'
      have r1 := rv _ .N
      cases r1 with | list o hl ha =>
      rename_i b items'
      refine pack_list rm hl o (items hc (ha.weaken fun _ _ => trivial) fun hp => ?_) q
      have r2 := rv _ (.inr (.inr ⟨hp, rfl⟩))
      cases r2 with | list o2 hl2 ha2 =>
      obtain ⟨m, e1⟩ := hl; obtain ⟨m2, e2⟩ := hl2
      rw [e1] at e2; cases e2; exact ha2
    · cases e'
  | tup l =>
    have e' : (if (p || PV.imms l) = true then some l else none) = some its := e
    split at e'
    · rename_i hc
      cases e'
      have r1 := rv _ .T
      cases r1 with | tup hl ha =>
      refine pack_tup rm hl (items hc ha fun hp => ?_) q
      have r2 := rv _ (.inr (.inr ⟨hp, rfl⟩))
      cases r2 with | tup hl2 ha2 =>
      have := PlainTup.inj hl hl2
      subst this; exact ha2
    · cases e'
  | dict ks vs => exact absurd rfl (hnd _ _)
  | _ => cases e
end
end Mine

namespace Mine
open PySem PySem.Calls PyProof.Rows PySem.W PySem.SeqAt

section
variable {prog : Program} {w : World} {h : Heap} {A : Around} {s : Shared} {n : Nat} {pub : Pubs}

noncomputable def intAt (l : List PV) (i : Nat) : Int := match l[i]? with
  | some (.int j) => j
  | _ => 0
theorem preSum_shift (f : Nat → Int) : ∀ n : Nat, preSum f (n + 1) = f 0 + preSum (fun i => f (i + 1)) n
  | 0 => by simp [preSum]
  | n + 1 => by rw [preSum, preSum_shift f n, preSum]; (first | lia | omega)
theorem int_shift {b : Int} {l : List PV} (h : ∀ (i : Nat) (x : PV), l[i]? = some x → x = .int (intAt l i)) : ∀ (i : Nat) (x : PV), (.int b :: l)[i]? = some x → x = .int (intAt (.int b :: l) i)
  | 0, x, hx => (Option.some.inj hx).symm
  | i + 1, x, hx => h i x hx
theorem sumL_pre : ∀ {l : List PV} {a k : Int}, sumL a l = some k → k = a + preSum (intAt l) l.length ∧ ∀ (i : Nat) (x : PV), l[i]? = some x → x = .int (intAt l i)
  | [], a, k, e => ⟨(Option.some.inj e).symm.trans (Int.add_zero a).symm, fun i x h => noS h⟩
  | x :: l, a, k, e => by
    obtain ⟨b, hb, e⟩ := bnd (show (intP x).bind (fun b => sumL (a + b) l) = some k from e)
    rw [intP_eq hb]
    obtain ⟨i1, i2⟩ := sumL_pre e
    refine ⟨?_, int_shift i2⟩
    rw [i1, List.length_cons, preSum_shift, ← Int.add_assoc]
    rfl

theorem sum_list' {p : Bool} {l : List PV} {r : PV} {cv : Value} (rm : Room A n) (e : biV .sum (p, .list l) = some r) (rv : VRep prog w s.heap (fun _ => True) (.list l) cv) : Gets prog w A s (call (.builtin "sum") [cv]) (Oks true pub) r := by
  obtain ⟨k, hk, e'⟩ := bnd (show (sumL 0 l).bind (fun i => some (PV.int i)) = some r from e)
  cases e'
  obtain ⟨h1, h2⟩ := sumL_pre hk
  obtain ⟨a, items, rfl, o, hl, ha⟩ := rv.list_inv
  have hlen : l.length = items.size := ha.length
  have hne : a ≠ s.heap.objs.size := by obtain ⟨m, e⟩ := hl; exact Nat.ne_of_lt (Heap.lt_size e)
  have hlt : a < s.heap.objs.size := by obtain ⟨m, e⟩ := hl; exact Heap.lt_size e
  refine fun E Q q => call_sum_walkG (wpAny_pyIter_list hl.isList ?_)
  have st := stays_push s.heap { cls := .type "list_iterator", data := .fields #[.ref a, .int 0 0] }
  refine ⟨_, _, _, _, _, _, intAt l, rfl, Walks.list (A := A.in1) rm.h s.heap.objs.size a hne items, ⟨⟨_, Heap.get?_push_size _ rfl, rfl, rfl⟩, hl.isList.push _⟩, fun b hb => ?_, fun i v hv => ?_, fun h' tk t' kp => ?_⟩
  · show b < (s.heap.push _).objs.size
    rw [Heap.size_push]
    rcases List.mem_cons.mp hb with e | e
    · rw [e]; exact Nat.lt_succ_self _
    · rw [List.mem_singleton.mp e]; exact Nat.lt_succ_of_lt hlt
  · obtain ⟨x, hx, rx⟩ := ha.get' (show items.toList[i]? = some v by simpa using hv)
    rw [h2 i x hx] at rx
    exact rx.int_inv
  · have : preSum (intAt l) items.size = k := by rw [← hlen]; (first | lia | omega)
    rw [this]
    exact q _ h' tk (fun b o e => kp b o (fun hm => by rw [List.mem_singleton.mp hm, fresh_none] at e; cases e) (st b o e)) fun _ _ => .int _ _
end
end Mine

namespace Mine
open PySem PySem.Calls PyProof.Rows PySem.W PySem.SeqAt
open MeetsSeq

section
variable {prog : Program} {w : World} {h : Heap} {A : Around} {s : Shared} {n : Nat} {pub : Pubs}

theorem count_tup {l : List PV} {x r : PV} {co : Value} (rm : Room A n) (e : (countL x l).bind (fun (k : Nat) => some (PV.int (k : Int))) = some r) (ro : VRep prog w s.heap (fun _ => True) (.tup l) co) :
    MethOf s "count" co fun id => ∀ h' tk cx, s.heap.StaysIn h' → VRep prog w h' (fun _ => True) x cx → Gets prog w A { s with heap := h', toks := tk } (call (.builtin id) [co, cx]) (Oks true pub) r := by
  obtain ⟨k, hk, e⟩ := bnd e
  cases e
  obtain ⟨a, items, rfl, ⟨m, hl⟩, ha⟩ := ro.tup_inv
  refine ⟨"tuple", "tuple.count", F.plainAttrs_tuple, F.slot_tuple_count, F.type_tuple_count, ⟨_, hl, rfl⟩, fun b e => by cases e; exact ⟨_, hl, rfl⟩, fun h' tk cx st rx => ?_⟩
  have hl' := st _ _ hl
  have ha' : VAll prog w h' (fun _ => True) l items.toList := ha.stays st fun _ x => x
  refine .int fun E Q q => ?_
  have hu : A.units + 7 < cLine := by have := rm.u; (first | lia | omega)
  refine call_meets F.slot_tuple_count ⟨_, hl', rfl⟩ F.entry_tuple_count (F.args_tuple_count_2 _ _) (tuple_countAt a items m none #[] cx (eqOf prog w h' x)) ⟨hl', fun y hy => ?_, ?_⟩
  · exact (eqOf_at (A := A) (s := { s with heap := h', toks := tk }) hu ha' rx (countL_all hk)) y (by simpa using hy)
  · rw [countL_is ha' hk]
    exact q _ _
end
end Mine

namespace Mine
open PySem PySem.Calls PyProof.Rows PySem.W PySem.SeqAt

noncomputable def RawAt (h : Heap) (d : Addr) (es : Array DictEntry) (ep : Nat) : Prop := ∃ o, h.get? d = some o ∧ o.ExactDict ∧ o.data = .dict es ep

section
variable {prog : Program} {w : World} {A : Around} {E : Value → Shared → Prop} {s : Shared} {d it : Addr} {es : Array DictEntry} {ep i : Nat}

theorem RawAt.typeIs (x : RawAt s.heap d es ep) : s.TypeIs (.ref d) "dict" := let ⟨o, ho, hc, _⟩ := x; ⟨o, ho, hc.1⟩
theorem RawAt.at {h h' : Heap} (x : RawAt h d es ep) (k : ∀ o, h.get? d = some o → h'.get? d = some o) : RawAt h' d es ep := let ⟨o, ho, r⟩ := x; ⟨o, k o ho, r⟩
theorem keyIter_at {h h' : Heap} {n : Nat} (x : h.IsKeyIter it d i n ep) (k : ∀ o, h.get? it = some o → h'.get? it = some o) : h'.IsKeyIter it d i n ep := let ⟨o, ho, r⟩ := x; ⟨o, k o ho, r⟩
theorem valIter_at {h h' : Heap} {n : Nat} (x : h.IsValIter it d i n ep) (k : ∀ o, h.get? it = some o → h'.get? it = some o) : h'.IsValIter it d i n ep := let ⟨o, ho, r⟩ := x; ⟨o, k o ho, r⟩

theorem raw_pyIter {Q : Value → Shared → Prop} (hd : (d == sysModules) = false) (hm : RawAt s.heap d es ep)
    (hQ : Q (.ref s.heap.objs.size) { s with heap := s.heap.push { cls := .type "dict_keyiterator", data := .fields #[.ref d, .int 0 0, .int es.size 0, .int ep 0] } }) :
    wpAny (model prog w) A (pyIter (.ref d)) Q E s := by
  have hT := hm.typeIs
  obtain ⟨o, ho, hc, hdat⟩ := hm
  refine wpAny_pyIter_slot hT F.slot_dict_iter (wpAny_call_entry F.slot_dict_iter hT F.entry_dict_iter ?_ (F.args_dict_iter_1 _))
  unfold Builtin.«dict.__iter__»
  refine wpAny_bind ?_
  unfold Builtin.Dict.dictSlotNone
  refine wpAny_bind (wpAny_notOrdered_dict hT ?_)
  refine wpAny_pure ?_
  show wpAny _ _ (Builtin.Dict.showsAll d >>= _) _ _ s
  unfold Builtin.Dict.showsAll
  rw [if_neg (by rw [hd]; exact Bool.false_ne_true)]
  refine wpAny_bind (wpAny_pure (wpAny_bind (wpAny_dictEntries ho hdat (wpAny_bind (wpAny_dictEpoch ho hdat ?_)))))
  refine wpAny_bind (wpAny_newObj_type (wpAny_pure ⟨_, rfl, "dict_keyiterator", _, ⟨_, Heap.get?_push_size _ rfl, rfl⟩, F.slot_dict_keyiterator_next.lookup, ?_⟩))
  simpa [rawInt] using hQ

theorem raw_next_key {Q : Option Value → Shared → Prop} (hit : s.heap.IsKeyIter it d i es.size ep) (hm : RawAt s.heap d es ep) (hi : i < es.size)
    (hQ : ∀ h', h'.IsKeyIter it d (i + 1) es.size ep → Heap.SameBut it s.heap h' → Q (some es[i].key) { s with heap := h' }) :
    wpAny (model prog w) A (pyNext (.ref it)) Q E s := by
  obtain ⟨o, ho, hc, hd⟩ := id hit
  obtain ⟨od, hod, hcd, hdd⟩ := id hm
  unfold pyNext
  refine wpAny_bind (wpAny_attempt (wpAny_callSpecial?_slot (name := Str.ofString "__next__") hit.typeIs F.slot_dict_keyiterator_next
    (wpAny_call_entry F.slot_dict_keyiterator_next hit.typeIs F.entry_dict_keyiterator_next ?_ (F.args_dict_keyiterator_next_1 _))))
  refine wpAny_bind (wpAny_pure (wpAny_bind (wpAny_bind ?_)))
  first | refine wpAny_bind (wpAny_typeNameOfWhole_keyiter hit.typeIs (wpAny_pure ?_)) | refine wpAny_bind (wpAny_typeNameOf_keyiter hit.typeIs (wpAny_pure ?_))
  refine wpAny_bind (wpAny_fieldsOf ho hd ?_)
  rw [show Builtin.Dict_items.ownsTuple "dict_keyiterator" = false by decide]
  show wpAny _ _ (if (Value.ref d == Value.none) = true then _ else _) _ _ s
  rw [if_neg (show ¬ ((Value.ref d == Value.none) = true) from Bool.false_ne_true)]
  refine wpAny_bind (wpAny_pure (wpAny_bind (wpAny_dictEntries hod hdd ?_)))
  rw [if_neg (by simp)]
  refine wpAny_bind (wpAny_pure (wpAny_bind (wpAny_dictEpoch hod hdd ?_)))
  rw [if_neg (by simp)]
  refine wpAny_pure ?_
  simp only [show ¬ ((i : Int) < 0) from by (first | lia | omega), if_false, Int.toNat_natCast, Array.getElem?_eq_getElem hi]
  refine wpAny_bind ?_
  first | refine wpAny_bind (wpAny_typeNameOfWhole_keyiter hit.typeIs (wpAny_pure ?_)) | refine wpAny_bind (wpAny_typeNameOf_keyiter hit.typeIs (wpAny_pure ?_))
  refine wpAny_bind (wpAny_isOneOf_keyiter hit.typeIs ?_)
  show wpAny _ _ (setField (.ref it) 1 (rawInt ((i : Int) + 1)) >>= _) _ _ s
  refine wpAny_bind (wpAny_setField ho hd (by simp) ?_)
  have hit' : (s.heap.update it (Obj.mapFields (·.setIfInBounds 1 (rawInt ((i : Int) + 1))))).IsKeyIter it d (i + 1) es.size ep :=
    ⟨_, Heap.get?_update_self _ ho (Obj.isFreed_of_fields (Obj.data_mapFields hd _)), (Obj.cls_mapFields ..).trans hc, by rw [Obj.data_mapFields hd]; simp [rawInt]⟩
  refine wpAny_bind (wpAny_holding ?_)
  refine wpAny_bind (wpAny_isOneOf_keyiter (s := { s with heap := s.heap.update it (Obj.mapFields (·.setIfInBounds 1 (rawInt ((i : Int) + 1)))) }) hit'.typeIs ?_)
  show wpAny _ _ (pure es[i].key) _ _ _
  exact wpAny_pure (wpAny_pure ⟨_, rfl, wpAny_pure (hQ _ hit' (Heap.SameBut.update ..))⟩)

theorem raw_end_key {Q : Option Value → Shared → Prop} (hh : A.handled = none) (hit : s.heap.IsKeyIter it d es.size es.size ep) (hm : RawAt s.heap d es ep)
    (hQ : ∀ h', Heap.ExtBut it s.heap h' → Q none { s with heap := h' }) : wpAny (model prog w) A (pyNext (.ref it)) Q E s := by
  obtain ⟨o, ho, hc, hd⟩ := id hit
  obtain ⟨od, hod, hcd, hdd⟩ := id hm
  unfold pyNext
  refine wpAny_bind (wpAny_attempt (wpAny_callSpecial?_slot (name := Str.ofString "__next__") hit.typeIs F.slot_dict_keyiterator_next
    (wpAny_call_entry F.slot_dict_keyiterator_next hit.typeIs F.entry_dict_keyiterator_next ?_ (F.args_dict_keyiterator_next_1 _))))
  refine wpAny_bind (wpAny_pure (wpAny_bind (wpAny_bind ?_)))
  first | refine wpAny_bind (wpAny_typeNameOfWhole_keyiter hit.typeIs (wpAny_pure ?_)) | refine wpAny_bind (wpAny_typeNameOf_keyiter hit.typeIs (wpAny_pure ?_))
  refine wpAny_bind (wpAny_fieldsOf ho hd ?_)
  rw [show Builtin.Dict_items.ownsTuple "dict_keyiterator" = false by decide]
  show wpAny _ _ (if (Value.ref d == Value.none) = true then _ else _) _ _ s
  rw [if_neg (show ¬ ((Value.ref d == Value.none) = true) from Bool.false_ne_true)]
  refine wpAny_bind (wpAny_pure (wpAny_bind (wpAny_dictEntries hod hdd ?_)))
  rw [if_neg (by simp)]
  refine wpAny_bind (wpAny_pure (wpAny_bind (wpAny_dictEpoch hod hdd ?_)))
  rw [if_neg (by simp)]
  refine wpAny_pure ?_
  simp only [show ¬ ((es.size : Int) < 0) from by (first | lia | omega), if_false, Int.toNat_natCast, Array.getElem?_eq_none (Nat.le_refl _)]
  refine wpAny_bind ?_
  first | refine wpAny_bind (wpAny_typeNameOfWhole_keyiter hit.typeIs (wpAny_pure ?_)) | refine wpAny_bind (wpAny_typeNameOf_keyiter hit.typeIs (wpAny_pure ?_))
  show wpAny _ _ (setField (.ref it) 0 .none >>= _) _ _ s
  refine wpAny_bind (wpAny_setField ho hd (by simp) ?_)
  show wpAny _ _ (newExc (.type "StopIteration") [] >>= _) _ _ _
  refine wpAny_bind ?_
  simp only [newExc, newTuple]
  refine wpAny_bind (wpAny_newObj_type ?_ (by size_fits))
  refine wpAny_bind (m := firstArgMember _ _) (wpAny_of_eq (a := Value.none) (by first | rfl | (simp only [firstArgMember]; rfl)) ?_)
  refine wpAny_newObj_type ?_ (by size_fits)
  simp only [raiseNew]
  refine wpAny_bind (wpAny_handled ?_)
  rw [show A.in1.handled = none from hh]
  refine wpAny_bind (wpAny_pure (wpAny_throw ?_))
  refine wpAny_bind (wpAny_isInstance (T := "StopIteration") (b := true) ⟨_, Heap.get?_push_size _ rfl, rfl⟩ isSubtype_stop ?_)
  exact wpAny_pure (hQ _ (((Heap.SameBut.update ..).extBut.push _).push _))

theorem walks_keys (hh : A.handled = none) (hne : d ≠ it) : Walks prog w A it [it, d] [it] es.size (fun i v => (es.toList.map (·.key))[i]? = some v) (fun i h => h.IsKeyIter it d i es.size ep ∧ RawAt h d es ep) where
  sub := fun b hb => by simp at hb; simp [hb]
  frame := fun _ _ _ st hk => ⟨keyIter_at st.1 fun o e => hk it (by simp) o e, st.2.at fun o e => hk d (by simp) o e⟩
  item := fun i s Q E hi st hQ => raw_next_key st.1 st.2 hi fun h' x y =>
    hQ _ h' s.toks (by simp [hi]) ⟨x, st.2.at fun o e => y.extBut d o hne e⟩ fun b o hb e => y.extBut b o (fun h => hb (by simp [h])) e
  done := fun s Q E st hQ => raw_end_key hh st.1 st.2 fun h' y => hQ h' s.toks fun b o hb e => y b o (fun h => hb (by simp [h])) e
  self := fun _ _ _ _ st q => wpAny_pyIter_keyiter st.1 q
end
end Mine

namespace Mine
open PySem PySem.Calls PyProof.Rows PySem.W PySem.SeqAt

section
variable {prog : Program} {w : World} {A : Around} {E : Value → Shared → Prop} {s : Shared} {d it : Addr} {es : Array DictEntry} {ep i : Nat}

theorem raw_pyIter_vals {v : Addr} {Q : Value → Shared → Prop} (hv : s.heap.IsValuesView v d) (hm : RawAt s.heap d es ep)
    (hQ : Q (.ref s.heap.objs.size) { s with heap := s.heap.push { cls := .type "dict_valueiterator", data := .fields #[.ref d, .int 0 0, .int es.size 0, .int ep 0] } }) :
    wpAny (model prog w) A (pyIter (.ref v)) Q E s := by
  obtain ⟨ov, hov, hcv, hdv⟩ := id hv
  obtain ⟨o, ho, hc, hdat⟩ := id hm
  refine wpAny_pyIter_slot hv.typeIs F.slot_dict_values_iter (wpAny_call_entry F.slot_dict_values_iter hv.typeIs F.entry_dict_values_iter ?_ (F.args_dict_values_iter_1 _))
  unfold Builtin.«dict_values.__iter__»
  refine wpAny_bind (wpAny_pure (wpAny_bind ?_))
  unfold Builtin.Dict_items.dictOf
  refine wpAny_bind (wpAny_field hov hdv (x := .ref d) rfl (wpAny_pure (wpAny_bind ?_)))
  unfold Builtin.Dict_items.newIterator
  refine wpAny_bind (wpAny_dictEntries ho hdat (wpAny_bind (wpAny_dictEpoch ho hdat ?_)))
  simp only [show Builtin.Dict_items.ownsTuple "dict_valueiterator" = false by decide, Bool.false_eq_true, if_false]
  refine wpAny_newObj_type (wpAny_pure ⟨_, rfl, "dict_valueiterator", _, ⟨_, Heap.get?_push_size _ rfl, rfl⟩, F.slot_dict_valueiterator_next.lookup, ?_⟩)
  simpa [rawInt] using hQ

theorem meets_values_raw (d : Addr) (hd : (d == sysModules) = false) :
    MeetsIn prog w (Builtin.«dict.values» ⟨[.ref d], []⟩) (fun _ R s => (∃ es ep, RawAt s.heap d es ep) ∧
      R (.ok (.ret (.ref s.heap.objs.size))) { s with heap := s.heap.push { cls := .type "dict_values", data := .fields #[.ref d] } }) :=
  .of_wp fun A R s ⟨⟨es, ep, hm⟩, h⟩ => by
    refine wpAny_bind ?_
    unfold Builtin.Dict.noArgs
    refine wpAny_bind (wpAny_notOrdered_dict hm.typeIs ?_)
    show wpAny _ _ (pure d) _ _ s
    refine wpAny_pure ?_
    show wpAny _ _ (Builtin.Dict.showsAll d >>= _) _ _ s
    unfold Builtin.Dict.showsAll
    rw [if_neg (by rw [hd]; exact Bool.false_ne_true)]
    exact wpAny_bind (wpAny_pure (wpAny_bind (wpAny_newObj_type (wpAny_pure ⟨_, rfl, h⟩))))
theorem meets_items_raw (d : Addr) (hd : (d == sysModules) = false) :
    MeetsIn prog w (Builtin.«dict.items» ⟨[.ref d], []⟩) (fun _ R s => (∃ es ep, RawAt s.heap d es ep) ∧
      R (.ok (.ret (.ref s.heap.objs.size))) { s with heap := s.heap.push { cls := .type "dict_items", data := .fields #[.ref d] } }) :=
  .of_wp fun A R s ⟨⟨es, ep, hm⟩, h⟩ => by
    unfold Builtin.«dict.items»
    refine wpAny_bind ?_
    unfold Builtin.Dict.noArgs
    refine wpAny_bind (wpAny_notOrdered_dict hm.typeIs ?_)
    show wpAny _ _ (pure d) _ _ s
    refine wpAny_pure ?_
    show wpAny _ _ (Builtin.Dict.showsAll d >>= _) _ _ s
    unfold Builtin.Dict.showsAll
    rw [if_neg (by rw [hd]; exact Bool.false_ne_true)]
    exact wpAny_bind (wpAny_pure (wpAny_bind (wpAny_newObj_type (wpAny_pure ⟨_, rfl, h⟩))))

theorem raw_next_val {Q : Option Value → Shared → Prop} (hit : s.heap.IsValIter it d i es.size ep) (hm : RawAt s.heap d es ep) (hi : i < es.size)
    (hQ : ∀ h', h'.IsValIter it d (i + 1) es.size ep → Heap.SameBut it s.heap h' → Q (some es[i].val) { s with heap := h' }) :
    wpAny (model prog w) A (pyNext (.ref it)) Q E s := by
  obtain ⟨o, ho, hc, hd⟩ := id hit
  obtain ⟨od, hod, hcd, hdd⟩ := id hm
  unfold pyNext
  refine wpAny_bind (wpAny_attempt (wpAny_callSpecial?_slot (name := Str.ofString "__next__") hit.typeIs F.slot_dict_valueiterator_next
    (wpAny_call_entry F.slot_dict_valueiterator_next hit.typeIs F.entry_dict_valueiterator_next ?_ (F.args_dict_valueiterator_next_1 _))))
  refine wpAny_bind (wpAny_pure (wpAny_bind (wpAny_bind ?_)))
  first | refine wpAny_bind (wpAny_typeNameOfWhole_valiter hit.typeIs (wpAny_pure ?_)) | refine wpAny_bind (wpAny_typeNameOf_valiter hit.typeIs (wpAny_pure ?_))
  refine wpAny_bind (wpAny_fieldsOf ho hd ?_)
  rw [show Builtin.Dict_items.ownsTuple "dict_valueiterator" = false by decide]
  show wpAny _ _ (if (Value.ref d == Value.none) = true then _ else _) _ _ s
  rw [if_neg (show ¬ ((Value.ref d == Value.none) = true) from Bool.false_ne_true)]
  refine wpAny_bind (wpAny_pure (wpAny_bind (wpAny_dictEntries hod hdd ?_)))
  rw [if_neg (by simp)]
  refine wpAny_bind (wpAny_pure (wpAny_bind (wpAny_dictEpoch hod hdd ?_)))
  rw [if_neg (by simp)]
  refine wpAny_pure ?_
  simp only [show ¬ ((i : Int) < 0) from by (first | lia | omega), if_false, Int.toNat_natCast, Array.getElem?_eq_getElem hi]
  refine wpAny_bind ?_
  first | refine wpAny_bind (wpAny_typeNameOfWhole_valiter hit.typeIs (wpAny_pure ?_)) | refine wpAny_bind (wpAny_typeNameOf_valiter hit.typeIs (wpAny_pure ?_))
  refine wpAny_bind (wpAny_isOneOf_valiter hit.typeIs ?_)
  show wpAny _ _ (setField (.ref it) 1 (rawInt ((i : Int) + 1)) >>= _) _ _ s
  refine wpAny_bind (wpAny_setField ho hd (by simp) ?_)
  have hit' : (s.heap.update it (Obj.mapFields (·.setIfInBounds 1 (rawInt ((i : Int) + 1))))).IsValIter it d (i + 1) es.size ep :=
    ⟨_, Heap.get?_update_self _ ho (Obj.isFreed_of_fields (Obj.data_mapFields hd _)), (Obj.cls_mapFields ..).trans hc, by rw [Obj.data_mapFields hd]; simp [rawInt]⟩
  refine wpAny_bind (wpAny_holding ?_)
  refine wpAny_bind (wpAny_isOneOf_valiter (s := { s with heap := s.heap.update it (Obj.mapFields (·.setIfInBounds 1 (rawInt ((i : Int) + 1)))) }) hit'.typeIs ?_)
  refine wpAny_bind (wpAny_isOneOf_valiter (s := { s with heap := s.heap.update it (Obj.mapFields (·.setIfInBounds 1 (rawInt ((i : Int) + 1)))) }) hit'.typeIs ?_)
  show wpAny _ _ (pure es[i].val) _ _ _
  exact wpAny_pure (wpAny_pure ⟨_, rfl, wpAny_pure (hQ _ hit' (Heap.SameBut.update ..))⟩)

theorem raw_end_val {Q : Option Value → Shared → Prop} (hh : A.handled = none) (hit : s.heap.IsValIter it d es.size es.size ep) (hm : RawAt s.heap d es ep)
    (hQ : ∀ h', Heap.ExtBut it s.heap h' → Q none { s with heap := h' }) : wpAny (model prog w) A (pyNext (.ref it)) Q E s := by
  obtain ⟨o, ho, hc, hd⟩ := id hit
  obtain ⟨od, hod, hcd, hdd⟩ := id hm
  unfold pyNext
  refine wpAny_bind (wpAny_attempt (wpAny_callSpecial?_slot (name := Str.ofString "__next__") hit.typeIs F.slot_dict_valueiterator_next
    (wpAny_call_entry F.slot_dict_valueiterator_next hit.typeIs F.entry_dict_valueiterator_next ?_ (F.args_dict_valueiterator_next_1 _))))
  refine wpAny_bind (wpAny_pure (wpAny_bind (wpAny_bind ?_)))
  first | refine wpAny_bind (wpAny_typeNameOfWhole_valiter hit.typeIs (wpAny_pure ?_)) | refine wpAny_bind (wpAny_typeNameOf_valiter hit.typeIs (wpAny_pure ?_))
  refine wpAny_bind (wpAny_fieldsOf ho hd ?_)
  rw [show Builtin.Dict_items.ownsTuple "dict_valueiterator" = false by decide]
  show wpAny _ _ (if (Value.ref d == Value.none) = true then _ else _) _ _ s
  rw [if_neg (show ¬ ((Value.ref d == Value.none) = true) from Bool.false_ne_true)]
  refine wpAny_bind (wpAny_pure (wpAny_bind (wpAny_dictEntries hod hdd ?_)))
  rw [if_neg (by simp)]
  refine wpAny_bind (wpAny_pure (wpAny_bind (wpAny_dictEpoch hod hdd ?_)))
  rw [if_neg (by simp)]
  refine wpAny_pure ?_
  simp only [show ¬ ((es.size : Int) < 0) from by (first | lia | omega), if_false, Int.toNat_natCast, Array.getElem?_eq_none (Nat.le_refl _)]
  refine wpAny_bind ?_
  first | refine wpAny_bind (wpAny_typeNameOfWhole_valiter hit.typeIs (wpAny_pure ?_)) | refine wpAny_bind (wpAny_typeNameOf_valiter hit.typeIs (wpAny_pure ?_))
  show wpAny _ _ (setField (.ref it) 0 .none >>= _) _ _ s
  refine wpAny_bind (wpAny_setField ho hd (by simp) ?_)
  show wpAny _ _ (newExc (.type "StopIteration") [] >>= _) _ _ _
  refine wpAny_bind ?_
  simp only [newExc, newTuple]
  refine wpAny_bind (wpAny_newObj_type ?_ (by size_fits))
  refine wpAny_bind (m := firstArgMember _ _) (wpAny_of_eq (a := Value.none) (by first | rfl | (simp only [firstArgMember]; rfl)) ?_)
  refine wpAny_newObj_type ?_ (by size_fits)
  simp only [raiseNew]
  refine wpAny_bind (wpAny_handled ?_)
  rw [show A.in1.handled = none from hh]
  refine wpAny_bind (wpAny_pure (wpAny_throw ?_))
  refine wpAny_bind (wpAny_isInstance (T := "StopIteration") (b := true) ⟨_, Heap.get?_push_size _ rfl, rfl⟩ isSubtype_stop ?_)
  exact wpAny_pure (hQ _ (((Heap.SameBut.update ..).extBut.push _).push _))

theorem walks_vals (hh : A.handled = none) (hne : d ≠ it) : Walks prog w A it [it, d] [it] es.size (fun i v => (es.toList.map (·.val))[i]? = some v) (fun i h => h.IsValIter it d i es.size ep ∧ RawAt h d es ep) where
  sub := fun b hb => by simp at hb; simp [hb]
  frame := fun _ _ _ st hk => ⟨valIter_at st.1 fun o e => hk it (by simp) o e, st.2.at fun o e => hk d (by simp) o e⟩
  item := fun i s Q E hi st hQ => raw_next_val st.1 st.2 hi fun h' x y =>
    hQ _ h' s.toks (by simp [hi]) ⟨x, st.2.at fun o e => y.extBut d o hne e⟩ fun b o hb e => y.extBut b o (fun h => hb (by simp [h])) e
  done := fun s Q E st hQ => raw_end_val hh st.1 st.2 fun h' y => hQ h' s.toks fun b o hb e => y b o (fun h => hb (by simp [h])) e
  self := fun _ _ _ _ st q => wpAny_pyIter_valiter st.1 q
end
end Mine

namespace Mine
open PySem PySem.Calls PyProof.Rows PySem.W PySem.SeqAt

section
variable {prog : Program} {w : World} {A : Around} {E : Value → Shared → Prop} {s : Shared} {d it : Addr} {es : Array DictEntry} {ep i : Nat}

theorem raw_pyIter_items {v : Addr} {Q : Value → Shared → Prop} (hv : s.heap.IsItemsView v d) (hm : RawAt s.heap d es ep)
    (hQ : Q (.ref s.heap.objs.size) { s with heap := s.heap.push { cls := .type "dict_itemiterator", data := .fields #[.none, .bool false, .ref d, .int 0 0, .int es.size 0, .int ep 0, .none, .none] } }) :
    wpAny (model prog w) A (pyIter (.ref v)) Q E s := by
  obtain ⟨ov, hov, hcv, hdv⟩ := id hv
  obtain ⟨o, ho, hc, hdat⟩ := id hm
  refine wpAny_pyIter_slot hv.typeIs F.slot_dict_items_iter (wpAny_call_entry F.slot_dict_items_iter hv.typeIs F.entry_dict_items_iter ?_ (F.args_dict_items_iter_1 _))
  unfold Builtin.«dict_items.__iter__»
  refine wpAny_bind (wpAny_pure (wpAny_bind ?_))
  unfold Builtin.Dict_items.dictOf
  refine wpAny_bind (wpAny_field hov hdv (x := .ref d) rfl (wpAny_pure (wpAny_bind ?_)))
  unfold Builtin.Dict_items.newIterator
  refine wpAny_bind (wpAny_dictEntries ho hdat (wpAny_bind (wpAny_dictEpoch ho hdat ?_)))
  simp only [show Builtin.Dict_items.ownsTuple "dict_itemiterator" = true by decide, if_true]
  refine wpAny_newObj_type (wpAny_pure ⟨_, rfl, "dict_itemiterator", _, ⟨_, Heap.get?_push_size _ rfl, rfl⟩, F.slot_dict_itemiterator_next.lookup, ?_⟩)
    (by simp only [sizeOk, Builtin.Dict_items.ownedTupleFields, List.size_toArray, List.length_append, List.length_cons, List.length_nil, sizeLine_eq]; (first | lia | omega))
  simpa [rawInt, Builtin.Dict_items.ownedTupleFields] using hQ

theorem raw_next_item {ok ov : Value} {Q : Option Value → Shared → Prop} (hit : IsItemIter s.heap it d i es.size ep ok ov) (hm : RawAt s.heap d es ep) (hi : i < es.size)
    (hQ : ∀ h', IsItemIterOut h' it d (i + 1) es.size ep es[i].key es[i].val s.heap.objs.size → h'.get? s.heap.objs.size = some { cls := .type "tuple", data := .seq #[es[i].key, es[i].val] } →
      (∀ b o, b ≠ it → s.heap.get? b = some o → h'.get? b = some o) → Q (some (.ref s.heap.objs.size)) { s with heap := h' }) :
    wpAny (model prog w) A (pyNext (.ref it)) Q E s := by
  obtain ⟨hp, g, dr, tk, os⟩ := s
  obtain ⟨od, hod, hcd, hdd⟩ := id hm
  have hT : Shared.TypeIs ⟨hp, g, dr, tk, os⟩ (.ref it) "dict_itemiterator" := ⟨_, hit, rfl⟩
  unfold pyNext
  refine wpAny_bind (wpAny_attempt (wpAny_callSpecial?_slot (name := Str.ofString "__next__") hT F.slot_dict_itemiterator_next
    (wpAny_call_entry F.slot_dict_itemiterator_next hT F.entry_dict_itemiterator_next ?_ (F.args_dict_itemiterator_next_1 _))))
  refine wpAny_bind (wpAny_pure (wpAny_bind (wpAny_bind ?_)))
  first | refine wpAny_bind (wpAny_typeNameOfWhole_itemiter hT (wpAny_pure ?_)) | refine wpAny_bind (wpAny_typeNameOf_itemiter hT (wpAny_pure ?_))
  refine wpAny_bind (wpAny_fieldsOf hit rfl ?_)
  rw [show Builtin.Dict_items.ownsTuple "dict_itemiterator" = true by decide]
  show wpAny _ _ (if (Value.ref d == Value.none) = true then _ else _) _ _ _
  rw [if_neg (show ¬ ((Value.ref d == Value.none) = true) from Bool.false_ne_true)]
  refine wpAny_bind (wpAny_pure (wpAny_bind (wpAny_dictEntries hod hdd ?_)))
  rw [if_neg (by simp)]
  refine wpAny_bind (wpAny_pure (wpAny_bind (wpAny_dictEpoch hod hdd ?_)))
  rw [if_neg (by simp)]
  refine wpAny_pure ?_
  simp only [show ¬ ((i : Int) < 0) from by (first | lia | omega), if_false, Int.toNat_natCast, Array.getElem?_eq_getElem hi]
  refine wpAny_bind ?_
  first | refine wpAny_bind (wpAny_typeNameOfWhole_itemiter hT (wpAny_pure ?_)) | refine wpAny_bind (wpAny_typeNameOf_itemiter hT (wpAny_pure ?_))
  refine wpAny_bind (wpAny_isOneOf_itemiter hT ?_)
  show wpAny _ _ (setField (.ref it) 3 (rawInt ((i : Int) + 1)) >>= _) _ _ ⟨hp, g, dr, tk, os⟩
  refine wpAny_bind (wpAny_setField_rec hit (by simp) fun h₁ he₁ hs₁ => ?_)
  replace hs₁ : Heap.SameBut it hp h₁ := hs₁
  replace he₁ : IsItemIter h₁ it d (i + 1) es.size ep ok ov := by
    have e : ((i + 1 : Nat) : Int) = (i : Int) + 1 := by (first | lia | omega)
    unfold IsItemIter; rw [e]; simpa [rawInt] using he₁
  have hT₁ : Shared.TypeIs ⟨h₁, g, dr, tk, os⟩ (.ref it) "dict_itemiterator" := ⟨_, he₁, rfl⟩
  refine wpAny_bind (wpAny_holding ?_)
  refine wpAny_bind (wpAny_isOneOf_itemiter hT₁ ?_)
  refine wpAny_bind (wpAny_isOneOf_itemiter hT₁ ?_)
  show wpAny _ _ (Builtin.Dict_items.pairFromOwner (.ref it) 6 es[i].key es[i].val) _ _ ⟨h₁, g, dr, tk, os⟩
  unfold Builtin.Dict_items.pairFromOwner
  refine wpAny_bind (wpAny_newTuple ?_)
  have he₂ : IsItemIter (h₁.push { cls := .type "tuple", data := .seq #[es[i].key, es[i].val] }) it d (i + 1) es.size ep ok ov := Heap.get?_push_of_some _ he₁
  generalize hh₂ : h₁.push { cls := .type "tuple", data := .seq #[es[i].key, es[i].val] } = h₂ at he₂
  have hz₁ : h₁.objs.size = hp.objs.size := hs₁.1
  have hil : it < hp.objs.size := Heap.lt_size hit
  have ht₂ : h₂.get? hp.objs.size = some { cls := .type "tuple", data := .seq #[es[i].key, es[i].val] } := by rw [← hh₂, ← hz₁]; exact Heap.get?_push_size _ rfl
  have hk₂ : ∀ b o, b ≠ it → hp.get? b = some o → h₂.get? b = some o := fun b o hb e => by rw [← hh₂]; exact Heap.get?_push_of_some _ (hs₁.extBut b o hb e)
  show wpAny _ _ (Builtin.Dict_items.ownedTupleIsFree (.ref it) >>= _) _ _ ⟨h₂, g, dr, tk, os⟩
  rw [hz₁]
  clear hh₂ he₁ hs₁ hT₁ hz₁ h₁
  refine wpAny_bind ?_
  unfold Builtin.Dict_items.ownedTupleIsFree
  refine wpAny_bind (wpAny_field he₂ rfl (x := .none) rfl (wpAny_pure ?_))
  simp only [if_true]
  refine wpAny_bind (wpAny_field he₂ rfl (x := ok) rfl (wpAny_bind (wpAny_field he₂ rfl (x := ov) rfl ?_)))
  refine wpAny_bind (wpAny_setField_rec he₂ (by simp) fun h₃ he₃ hs₃ => ?_)
  replace hs₃ : Heap.SameBut it h₂ h₃ := hs₃
  replace he₃ : IsItemIter h₃ it d (i + 1) es.size ep es[i].key ov := he₃
  refine wpAny_bind (wpAny_setField_rec he₃ (by simp) fun h₄ he₄ hs₄ => ?_)
  replace hs₄ : Heap.SameBut it h₃ h₄ := hs₄
  replace he₄ : IsItemIter h₄ it d (i + 1) es.size ep es[i].key es[i].val := he₄
  refine wpAny_bind (wpAny_setField_rec he₄ (by simp) fun h₅ he₅ hs₅ => ?_)
  replace hs₅ : Heap.SameBut it h₄ h₅ := hs₅
  replace he₅ : IsItemIterOut h₅ it d (i + 1) es.size ep es[i].key es[i].val hp.objs.size := he₅
  refine wpAny_bind (wpAny_setField_rec he₅ (by simp) fun h₆ he₆ hs₆ => ?_)
  replace hs₆ : Heap.SameBut it h₅ h₆ := hs₆
  replace he₆ : IsItemIterOut h₆ it d (i + 1) es.size ep es[i].key es[i].val hp.objs.size := he₆
  have all : ∀ b o, b ≠ it → h₂.get? b = some o → h₆.get? b = some o := fun b o hb e => hs₆.extBut b o hb (hs₅.extBut b o hb (hs₄.extBut b o hb (hs₃.extBut b o hb e)))
  exact wpAny_bind (wpAny_letGo (wpAny_pure (wpAny_pure ⟨_, rfl, wpAny_pure (hQ h₆ he₆ (all _ _ (Nat.ne_of_gt hil) ht₂) fun b o hb e => all b o hb (hk₂ b o hb e))⟩)))

theorem raw_end_item {ok ov : Value} {Q : Option Value → Shared → Prop} (hh : A.handled = none) (hit : IsItemIter s.heap it d es.size es.size ep ok ov) (hm : RawAt s.heap d es ep)
    (hQ : ∀ h', Heap.ExtBut it s.heap h' → Q none { s with heap := h' }) : wpAny (model prog w) A (pyNext (.ref it)) Q E s := by
  obtain ⟨od, hod, hcd, hdd⟩ := id hm
  have hT : s.TypeIs (.ref it) "dict_itemiterator" := ⟨_, hit, rfl⟩
  unfold pyNext
  refine wpAny_bind (wpAny_attempt (wpAny_callSpecial?_slot (name := Str.ofString "__next__") hT F.slot_dict_itemiterator_next
    (wpAny_call_entry F.slot_dict_itemiterator_next hT F.entry_dict_itemiterator_next ?_ (F.args_dict_itemiterator_next_1 _))))
  refine wpAny_bind (wpAny_pure (wpAny_bind (wpAny_bind ?_)))
  first | refine wpAny_bind (wpAny_typeNameOfWhole_itemiter hT (wpAny_pure ?_)) | refine wpAny_bind (wpAny_typeNameOf_itemiter hT (wpAny_pure ?_))
  refine wpAny_bind (wpAny_fieldsOf hit rfl ?_)
  rw [show Builtin.Dict_items.ownsTuple "dict_itemiterator" = true by decide]
  show wpAny _ _ (if (Value.ref d == Value.none) = true then _ else _) _ _ s
  rw [if_neg (show ¬ ((Value.ref d == Value.none) = true) from Bool.false_ne_true)]
  refine wpAny_bind (wpAny_pure (wpAny_bind (wpAny_dictEntries hod hdd ?_)))
  rw [if_neg (by simp)]
  refine wpAny_bind (wpAny_pure (wpAny_bind (wpAny_dictEpoch hod hdd ?_)))
  rw [if_neg (by simp)]
  refine wpAny_pure ?_
  simp only [show ¬ ((es.size : Int) < 0) from by omega, if_false, Int.toNat_natCast, Array.getElem?_eq_none (Nat.le_refl _)]
  refine wpAny_bind ?_
  first | refine wpAny_bind (wpAny_typeNameOfWhole_itemiter hT (wpAny_pure ?_)) | refine wpAny_bind (wpAny_typeNameOf_itemiter hT (wpAny_pure ?_))
  show wpAny _ _ (setField (.ref it) 2 .none >>= _) _ _ s
  refine wpAny_bind (wpAny_setField hit rfl (by simp) ?_)
  show wpAny _ _ (newExc (.type "StopIteration") [] >>= _) _ _ _
  refine wpAny_bind ?_
  simp only [newExc, newTuple]
  refine wpAny_bind (wpAny_newObj_type ?_ (by size_fits))
  refine wpAny_bind (m := firstArgMember _ _) (wpAny_of_eq (a := Value.none) (by first | rfl | (simp only [firstArgMember]; rfl)) ?_)
  refine wpAny_newObj_type ?_ (by size_fits)
  simp only [raiseNew]
  refine wpAny_bind (wpAny_handled ?_)
  rw [show A.in1.handled = none from hh]
  refine wpAny_bind (wpAny_pure (wpAny_throw ?_))
  refine wpAny_bind (wpAny_isInstance (T := "StopIteration") (b := true) ⟨_, Heap.get?_push_size _ rfl, rfl⟩ isSubtype_stop ?_)
  exact wpAny_pure (hQ _ (((Heap.SameBut.update ..).extBut.push _).push _))
end
end Mine

namespace Mine
open PySem PySem.Calls PyProof.Rows PySem.W PySem.SeqAt

section
variable {prog : Program} {w : World} {h : Heap} {ok : Addr → Prop}

theorem atom_rep {k : Atom} {v : Value} (hk : (atomKind prog w).is k v = true) : VRep prog w h ok (atomPV k) v := by
  rcases Atom.is_shape hk with ⟨i, t, rfl, rfl⟩ | ⟨x, t, rfl, rfl⟩
  · exact .int i t
  · exact .str x t rfl
theorem tup_rep {k : List Atom} {a : Addr} (hk : (tupKind prog w).is h k a) : VRep prog w h ok (tupPV k) (.ref a) := by
  obtain ⟨⟨o, items, n, ho, hc, hd, hi⟩, items', m, hm⟩ := hk
  have e := hm.symm.trans ho
  cases e
  simp only at hd
  cases hd
  refine .tup ⟨_, hm⟩ ?_
  clear hm ho hc
  generalize items.toList = vs at hi
  induction hi with
  | nil => exact .nil
  | @cons k v ks vs h1 _ ih => exact .cons (atom_rep h1) ih

theorem pairs_rep {ok' : Addr → Prop} {es : List DictEntry} {xs : List (Atom × Value)} (hp : Pairs (atomKind prog w) es xs) :
    VAll prog w h ok' (xs.map fun x => atomPV x.1) (es.map (·.key)) ∧ es.map (·.val) = xs.map fun x => x.2 := by
  induction hp with
  | nil => exact ⟨.nil, rfl⟩
  | cons h1 h2 _ ih => exact ⟨.cons (atom_rep h1) ih.1, by simp [h2, ih.2]⟩
theorem pairsT_rep {ok' : Addr → Prop} : ∀ {xs : List (List Atom × Addr × Value)}, (∀ x ∈ xs, (tupKind prog w).is h x.1 x.2.1) →
    VAll prog w h ok' (xs.map fun x => tupPV x.1) ((xs.map (entryOfKey (tupKind prog w))).map (·.key)) ∧ (xs.map (entryOfKey (tupKind prog w))).map (·.val) = xs.map fun x => x.2.2
  | [], _ => ⟨.nil, rfl⟩
  | x :: xs, hx => by
    obtain ⟨i1, i2⟩ := pairsT_rep (ok' := ok') fun y hy => hx y (.tail _ hy)
    exact ⟨.cons (tup_rep (hx x (.head _))) i1, by simp only [List.map_cons, i2]; rfl⟩

theorem dict_raw {ks vs : List PV} {cv : Value} (r : VRep prog w h ok (.dict ks vs) cv) :
    ∃ d es ep, cv = .ref d ∧ (d == sysModules) = false ∧ RawAt h d es ep ∧ ok d ∧ (∀ ok', VAll prog w h ok' ks (es.toList.map (·.key))) ∧ VAll prog w h ok vs (es.toList.map (·.val)) := by
  cases r with
  | dictT xs hk hd hds e ha =>
    obtain ⟨o, es, ep, h1, h2, h3, h4, h5, h6⟩ := hd
    subst e
    refine ⟨_, es, ep, rfl, hds, ⟨o, h1, h2, h3⟩, hk, fun ok' => ?_, ?_⟩
    · rw [h4]; exact (pairsT_rep h5).1
    · rw [h4, (pairsT_rep (ok' := ok) h5).2]; exact ha
  | dictA xs hk hd hds e ha =>
    obtain ⟨o, es, ep, h1, h2, h3, h4, h5, h6⟩ := hd
    subst e
    refine ⟨_, es, ep, rfl, hds, ⟨o, h1, h2, h3⟩, hk, fun ok' => (pairs_rep h5).1, ?_⟩
    rw [(pairs_rep (h := h) (ok' := ok) h5).2]; exact ha

theorem RawAt.inj {d : Addr} {es es' : Array DictEntry} {ep ep' : Nat} (x : RawAt h d es ep) (y : RawAt h d es' ep') : es = es' ∧ ep = ep' := by
  obtain ⟨o, h1, _, h2⟩ := x
  obtain ⟨o', h1', _, h2'⟩ := y
  rw [h1] at h1'; cases h1'
  rw [h2] at h2'; cases h2'
  exact ⟨rfl, rfl⟩
end

section
variable {prog : Program} {w : World} {A : Around} {s : Shared} {n : Nat} {pub : Pubs}

theorem RawAt.ne {d : Addr} {es : Array DictEntry} {ep : Nat} (x : RawAt s.heap d es ep) : d ≠ s.heap.objs.size := let ⟨_, e, _⟩ := x; Nat.ne_of_lt (Heap.lt_size e)
theorem RawAt.some {h : Heap} {d : Addr} {es : Array DictEntry} {ep : Nat} (x : RawAt h d es ep) : h.get? d ≠ none := let ⟨_, e, _⟩ := x; by rw [e]; simp
theorem RawAt.stays {h h' : Heap} {d : Addr} {es : Array DictEntry} {ep : Nat} (st : h.StaysIn h') (x : RawAt h d es ep) : RawAt h' d es ep := x.at fun o e => st d o e

theorem pack_keys {pl dk : Addr → Prop} {target : Expr} {l : List PV} {d : Addr} {es : Array DictEntry} {ep : Nat} {E : Value → Shared → Prop} {Q : Value → Shared → Prop} (rm : Room A n) (hd : (d == sysModules) = false) (hm : RawAt s.heap d es ep) (hk : dk d) (va : VAll prog w s.heap pl l (es.toList.map (·.key)))
    (q : ∀ it s', Pack prog w A s target pl dk l it s' → Q it s') : wpAny (model prog w) A (pyIter (.ref d)) Q E s := by
  have hlen : l.length = es.size := by have := va.length; simpa using this
  have hne := hm.ne
  have st := stays_push s.heap { cls := .type "dict_keyiterator", data := .fields #[.ref d, .int 0 0, .int es.size 0, .int ep 0] }
  have W : Walks prog w A s.heap.objs.size [s.heap.objs.size, d] [s.heap.objs.size] l.length (fun i v => (es.toList.map (·.key))[i]? = some v) (fun i h => h.IsKeyIter s.heap.objs.size d i es.size ep ∧ RawAt h d es ep) := by
    rw [hlen]; exact walks_keys rm.h hne
  refine raw_pyIter hd hm (q _ _ ⟨_, _, _, _, _, s.toks, rfl, rfl, st, turns_walks (vals := es.toList.map (·.key)) W (fun i v h => h) (fun i h x b hb => ?_) (fun i s v E Q x q => ?_), ⟨⟨⟨_, Heap.get?_push_size _ rfl, rfl, rfl⟩, hm.stays st⟩, (va.exist.stays st fun b o => ⟨o.1, fun e => o.2 (none_of_stays st e)⟩)⟩, fun b hb => ?_, fun b hb => ?_⟩)
  · rw [List.mem_singleton.mp hb]; obtain ⟨o, ho, _, hd⟩ := x.1; exact ⟨o, _, ho, hd⟩
  · obtain ⟨o, ho, hc, _⟩ := x.1; exact letGo_plain ho hc (by decide) q
  · rw [List.mem_singleton.mp hb]; exact fresh_none _
  · obtain ⟨hb1, hb2⟩ := hb
    have : b = d := by
      rcases List.mem_cons.mp hb1 with e | e
      · exact absurd (by simp [e]) hb2
      · exact List.mem_singleton.mp e
    subst this
    exact ⟨(hm.stays st).some, .inr hk⟩

theorem leaf_iterV {a : Bool × PV} {its : List PV} {cv : Value} {target : Expr} {E : Value → Shared → Prop} {Q : Value → Shared → Prop} (rm : Room A n) (e : itemsP a = some its) (rv : ∀ ok, Oks a.1 pub ok → VRep prog w s.heap ok a.2 cv)
    (q : ∀ it s', Pack prog w A s target pub.p pub.nw its it s' → Q it s') : wpAny (model prog w) A (pyIter cv) Q E s := by
  by_cases hd : ∃ ks vs, a.2 = .dict ks vs
  · obtain ⟨ks, vs, hd⟩ := hd
    obtain ⟨p, v⟩ := a
    simp only at hd
    subst hd
    have e' : some ks = some its := e
    cases e'
    obtain ⟨d, es, ep, rfl, hds, hm, hk, hks, _⟩ := dict_raw (rv _ .N)
    exact pack_keys rm hds hm hk (hks _) q
  · exact iterV_seq rm e (fun ks vs x => hd ⟨ks, vs, x⟩) rv q
end
end Mine

namespace Mine
open PySem PySem.Calls PyProof.Rows PySem.W PySem.SeqAt

section
variable {prog : Program} {w : World} {A : Around} {s : Shared} {n : Nat} {pub : Pubs}

theorem entry_itemiter : entryFor table "dict_itemiterator.__iter__" = some Builtin.«dict_keyiterator.__iter__» :=
  entryFor_alias (id' := "dict_keyiterator.__iter__") (by kernel_rfl) rfl (by decide +kernel) (by kernel_rfl)
theorem size_free (h : Heap) {h1 : Heap} (st : h.StaysIn h1) : h.get? h1.objs.size = none := none_of_stays st (fresh_none _)

theorem pack_vals {pl dk : Addr → Prop} {target : Expr} {l : List PV} {d v : Addr} {es : Array DictEntry} {ep tk : Nat} {h1 : Heap} {E : Value → Shared → Prop} {Q : Value → Shared → Prop} (rm : Room A n) (st1 : s.heap.StaysIn h1) (hv : h1.IsValuesView v d) (hm : RawAt s.heap d es ep) (hk : dk d) (va : VAll prog w s.heap pl l (es.toList.map (·.val)))
    (q : ∀ it s', Pack prog w A s target pl dk l it s' → Q it s') : wpAny (model prog w) A (pyIter (.ref v)) Q E { s with heap := h1, toks := tk } := by
  have hlen : l.length = es.size := by have := va.length; simpa using this
  have hm1 := hm.stays st1
  have hne : d ≠ h1.objs.size := RawAt.ne (s := { s with heap := h1 }) hm1
  have st := stays_trans st1 (stays_push h1 { cls := .type "dict_valueiterator", data := .fields #[.ref d, .int 0 0, .int es.size 0, .int ep 0] })
  have W : Walks prog w A h1.objs.size [h1.objs.size, d] [h1.objs.size] l.length (fun i v => (es.toList.map (·.val))[i]? = some v) (fun i h => h.IsValIter h1.objs.size d i es.size ep ∧ RawAt h d es ep) := by
    rw [hlen]; exact walks_vals rm.h hne
  refine raw_pyIter_vals (s := { s with heap := h1, toks := tk }) hv hm1 (q _ _ ⟨_, _, _, _, _, tk, rfl, rfl, st, turns_walks (vals := es.toList.map (·.val)) W (fun i v h => h) (fun i h x b hb => ?_) (fun i s v E Q x q => ?_), ⟨⟨⟨_, Heap.get?_push_size _ rfl, rfl, rfl⟩, hm.stays st⟩, (va.exist.stays st fun b o => ⟨o.1, fun e => o.2 (none_of_stays st e)⟩)⟩, fun b hb => ?_, fun b hb => ?_⟩)
  · rw [List.mem_singleton.mp hb]; obtain ⟨o, ho, _, hd⟩ := x.1; exact ⟨o, _, ho, hd⟩
  · obtain ⟨o, ho, hc, _⟩ := x.1; exact letGo_plain ho hc (by decide) q
  · rw [List.mem_singleton.mp hb]; exact size_free _ st1
  · obtain ⟨hb1, hb2⟩ := hb
    have : b = d := by
      rcases List.mem_cons.mp hb1 with e | e
      · exact absurd (by simp [e]) hb2
      · exact List.mem_singleton.mp e
    subst this
    exact ⟨(hm.stays st).some, .inr hk⟩

theorem pairsOf_get : ∀ {ks vs : List PV} {cks cvs : List Value} {h : Heap} {ok ok' : Addr → Prop} {i : Nat} {x : PV}, VAll prog w h ok ks cks → VAll prog w h ok' vs cvs → (pairsOf ks vs)[i]? = some x →
    ∃ a b ca cb, x = .tup [a, b] ∧ cks[i]? = some ca ∧ cvs[i]? = some cb ∧ VRep prog w h ok a ca ∧ VRep prog w h ok' b cb
  | _, _, _, _, _, _, _, i, x, .nil, _, e => by simp [pairsOf] at e
  | _, _, _, _, _, _, _, i, x, .cons _ _, .nil, e => by simp [pairsOf] at e
  | _, _, _, _, _, _, _, i, x, .cons a r, .cons b t, e => by
    cases i with
    | zero => simp [pairsOf] at e; exact ⟨_, _, _, _, e.symm, rfl, rfl, a, b⟩
    | succ i =>
      have e' := e
      simp only [pairsOf, List.getElem?_cons_succ] at e'
      obtain ⟨a1, b1, ca, cb, h1, h2, h3, h4, h5⟩ := pairsOf_get r t e'
      exact ⟨a1, b1, ca, cb, h1, by simpa using h2, by simpa using h3, h4, h5⟩
theorem pairsOf_len : ∀ {ks vs : List PV}, ks.length = vs.length → (pairsOf ks vs).length = ks.length
  | [], _, _ => rfl
  | _ :: ks, [], e => by simp at e
  | _ :: ks, _ :: vs, e => by simp only [pairsOf, List.length_cons]; rw [pairsOf_len (by simpa using e)]

theorem turns_items {target : Expr} {it d : Addr} {es : Array DictEntry} {ep : Nat} {ks vs : List PV} {pi : Addr → Prop} (ht : isTupT target = true) (hh : A.handled = none) (hne : d ≠ it) (hk : ks.length = es.size) (hv : vs.length = es.size) :
    Turns prog w A target it pi (fun a => a = it) (fun a => a = d) (pairsOf ks vs) (fun i h => ((∃ ok ov, IsItemIter h it d i es.size ep ok ov) ∧ RawAt h d es ep) ∧ VAll prog w h pi ks (es.toList.map (·.key)) ∧ VAll prog w h pi vs (es.toList.map (·.val))) where
  frame := fun V i h h' hpi hwr hdep kp st => by
    obtain ⟨⟨⟨ok, ov, a⟩, b⟩, c, e⟩ := st
    exact ⟨⟨⟨ok, ov, kp _ _ a (.inl (hwr it rfl))⟩, b.at fun o x => kp _ _ x (.inl (hdep d rfl))⟩, c.kp kp fun a o => ⟨hpi a o, o⟩, e.kp kp fun a o => ⟨hpi a o, o⟩⟩
  it := fun i h a st ha => by
    obtain ⟨⟨⟨ok, ov, x⟩, _⟩, _⟩ := st
    rw [ha]; exact ⟨_, _, x, rfl⟩
  item := fun i x s E Q hx st q => by
    obtain ⟨⟨⟨ok, ov, a⟩, b⟩, c, e⟩ := st
    have hlt : i < es.size := by have := (List.getElem?_eq_some_iff.mp hx).1; rw [pairsOf_len (hk.trans hv.symm)] at this; (first | lia | omega)
    refine raw_next_item a b hlt fun h1 a1 t1 k1 => ⟨_, rfl, ?_⟩
    cases target with
    | Tuple elts x1 pos =>
      refine wpAny_letOwnedTupleGo_items (s := { s with heap := h1 }) a1 fun h2 a2 k2 => ?_
      have hil : it < s.heap.objs.size := Heap.lt_size a
      have kk : ∀ b o, ¬ (b = it) → s.heap.get? b = some o → h2.get? b = some o := fun b o hb y => k2.extBut b o hb (k1 b o hb y)
      have kp : Kp (fun a => a = it) s.heap h2 := kp_its (fun y hy => by rw [hy]; exact ⟨_, _, a, rfl⟩) kk
      have no : ∀ y, pi y ∧ Cont s.heap y → ¬ y = it ∧ pi y := fun y o => ⟨fun hy => by subst hy; exact ItOb.not o.2.mut ⟨_, _, a, rfl⟩, o.1⟩
      have c2 := c.here.kp kp no
      have e2 := e.here.kp kp no
      have t2 := k2.extBut _ _ (Nat.ne_of_gt hil) t1
      refine q _ h2 s.toks ?_ ⟨⟨⟨_, _, a2⟩, b.at fun o y => kk d o hne y⟩, c2, e2⟩ kk
      obtain ⟨a', b', ca, cb, rfl, h1', h2', r1, r2⟩ := pairsOf_get c2 e2 hx
      have g1 : ca = es[i].key := by simpa [hlt] using h1'.symm
      have g2 : cb = es[i].val := by simpa [hlt] using h2'.symm
      subst g1; subst g2
      exact .tup ⟨_, t2⟩ (.cons r1 (.cons r2 .nil))
    | _ => cases ht
  done := fun s E Q st q => by
    obtain ⟨⟨⟨ok, ov, a⟩, b⟩, c, e⟩ := st
    rw [pairsOf_len (hk.trans hv.symm), hk] at a
    exact raw_end_item hh a b fun h' k => q h' s.toks k
  self := fun i s E Q st q => by
    obtain ⟨⟨⟨ok, ov, a⟩, b⟩, c, e⟩ := st
    have hT : s.TypeIs (.ref it) "dict_itemiterator" := ⟨_, a, rfl⟩
    refine wpAny_pyIter_slot hT F.slot_dict_itemiterator_iter (wpAny_call_entry F.slot_dict_itemiterator_iter hT entry_itemiter ?_ (F.args_dict_itemiterator_iter_1 _))
    exact wpAny_pure ⟨_, rfl, "dict_itemiterator", _, hT, F.slot_dict_itemiterator_next.lookup, q⟩
end
end Mine

namespace Mine
open PySem PySem.Calls PyProof.Rows PySem.W PySem.SeqAt

section
variable {prog : Program} {w : World} {A : Around} {s : Shared} {n : Nat} {pub : Pubs}

theorem pack_items {pl dk : Addr → Prop} {target : Expr} {ks vs : List PV} {d v : Addr} {es : Array DictEntry} {ep tk : Nat} {h1 : Heap} {E : Value → Shared → Prop} {Q : Value → Shared → Prop} (rm : Room A n) (ht : isTupT target = true) (st1 : s.heap.StaysIn h1) (hv : h1.IsItemsView v d) (hm : RawAt s.heap d es ep) (hk : dk d)
    (va : VAll prog w s.heap pl ks (es.toList.map (·.key))) (vb : VAll prog w s.heap pl vs (es.toList.map (·.val)))
    (q : ∀ it s', Pack prog w A s target pl dk (pairsOf ks vs) it s' → Q it s') : wpAny (model prog w) A (pyIter (.ref v)) Q E { s with heap := h1, toks := tk } := by
  have hlen : ks.length = es.size := by have := va.length; simpa using this
  have hlen' : vs.length = es.size := by have := vb.length; simpa using this
  have hm1 := hm.stays st1
  have hne : d ≠ h1.objs.size := RawAt.ne (s := { s with heap := h1 }) hm1
  have st := stays_trans st1 (stays_push h1 { cls := .type "dict_itemiterator", data := .fields #[.none, .bool false, .ref d, .int 0 0, .int es.size 0, .int ep 0, .none, .none] })
  have ex : ∀ {l : List PV} {vs : List Value}, VAll prog w s.heap pl l vs → VAll prog w _ (fun a => pl a ∧ (h1.push { cls := .type "dict_itemiterator", data := .fields #[.none, .bool false, .ref d, .int 0 0, .int es.size 0, .int ep 0, .none, .none] }).get? a ≠ none) l vs :=
    fun va => va.exist.stays st fun b o => ⟨o.1, fun e => o.2 (none_of_stays st e)⟩
  refine raw_pyIter_items (s := { s with heap := h1, toks := tk }) hv hm1 (q _ _ ⟨_, _, _, _, _, tk, rfl, rfl, st, turns_items ht rm.h hne hlen hlen', ⟨⟨⟨_, _, Heap.get?_push_size _ rfl⟩, hm.stays st⟩, ex va, ex vb⟩, fun b hb => ?_, fun b hb => ?_⟩)
  · rw [hb]; exact size_free _ st1
  · rw [hb]; exact ⟨(hm.stays st).some, .inr hk⟩

theorem leaf_view {a : Bool × PV} {tup : Bool} {name : Str} {its : List PV} {co : Value} {target : Expr} {E : Value → Shared → Prop} {Q : Value → Shared → Prop} (rm : Room A n) (e : viewP tup name a = some its) (ht : tup = true → isTupT target = true) (rv : ∀ ok, Oks a.1 pub ok → VRep prog w s.heap ok a.2 co)
    (q : ∀ it s', Pack prog w A s target pub.p pub.nw its it s' → Q it s') : MethOf s name co fun id => wpAny (model prog w) A (call (.builtin id) [co]) (fun cv s₁ => wpAny (model prog w) A (pyIter cv) Q E s₁) E s := by
  obtain ⟨p, v⟩ := a
  cases v with
  | dict ks vs =>
    have e' : (if (p || PV.imms vs) = true then (if strEq name "items" then (if tup then some (pairsOf ks vs) else none) else if strEq name "values" then some vs else none) else none) = some its := e
    split at e'
    · rename_i hc
      obtain ⟨d, es, ep, rfl, hds, hm, hk, hks, hvs⟩ := dict_raw (rv _ .N)
      have hvs' : VAll prog w s.heap pub.p vs (es.toList.map (·.val)) := by
        simp only [Bool.or_eq_true] at hc
        rcases hc with hc | hc
        · obtain ⟨d', es', ep', e1, _, hm', _, _, hvs'⟩ := dict_raw (rv _ (.inr (.inr ⟨hc, rfl⟩)))
          cases e1
          rw [(hm.inj hm').1]; exact hvs'
        · exact imms_any hc hvs
      have hex : ∀ b, Value.ref d = .ref b → ∃ ob, s.heap.get? b = some ob ∧ ob.dict = none := fun b eb => by
        cases eb
        obtain ⟨o, h1, h2, _⟩ := hm
        exact ⟨o, h1, h2.2.1⟩
      split at e'
      · rename_i hn
        split at e'
        · rename_i htup
          cases e'
          have hn' : name = "items" := Str.ext_list (beq_iff_eq.mp hn)
          subst hn'
          refine ⟨"dict", "dict.items", F.plainAttrs_dict, F.slot_dict_items, F.type_dict_items, hm.typeIs, hex, ?_⟩
          refine call_meetsIn F.slot_dict_items hm.typeIs F.entry_dict_items (F.args_dict_items_1 _) (meets_items_raw d hds) ⟨⟨_, _, hm⟩, ?_⟩
          exact pack_items (s := s) rm (ht htup) (stays_push _ _) ⟨_, Heap.get?_push_size _ rfl, rfl, rfl⟩ hm hk (hks _) hvs' q
        · cases e'
      · split at e'
        · rename_i hn
          cases e'
          have hn' : name = "values" := Str.ext_list (beq_iff_eq.mp hn)
          subst hn'
          refine ⟨"dict", "dict.values", F.plainAttrs_dict, F.slot_dict_values, F.type_dict_values, hm.typeIs, hex, ?_⟩
          refine call_meetsIn F.slot_dict_values hm.typeIs F.entry_dict_values (F.args_dict_values_1 _) (meets_values_raw d hds) ⟨⟨_, _, hm⟩, ?_⟩
          exact pack_vals (s := s) rm (stays_push _ _) ⟨_, Heap.get?_push_size _ rfl, rfl, rfl⟩ hm hk hvs' q
        · cases e'
    · cases e'
  | _ => cases e
end
end Mine

namespace Mine
open PySem PySem.Calls PyProof.Rows PySem.W PySem.SeqAt

section
variable {prog : Program} {w : World} {A : Around} {s : Shared} {n : Nat} {pub : Pubs}

end
end Mine

namespace Mine
open PySem PySem.Calls PyProof.Rows PySem.W PySem.SeqAt

section
variable {prog : Program} {w : World} {A : Around} {s : Shared} {n : Nat} {pub : Pubs}

end
end Mine

namespace Mine
open PySem PySem.Calls PyProof.Rows PySem.W PySem.SeqAt

section
variable {prog : Program} {w : World} {A : Around} {s : Shared} {n : Nat} {pub : Pubs}

theorem meets_len_raw (d : Addr) (hd : (d == sysModules) = false) :
    MeetsIn prog w (Builtin.«dict.__len__» ⟨[.ref d], []⟩) (fun _ R s => ∃ es ep, RawAt s.heap d es ep ∧ R (.ok (.ret (.int es.size s.toks))) { s with toks := s.toks + 1 }) :=
  .of_wp fun A R s ⟨es, ep, hm, h⟩ => by
    obtain ⟨o, ho, hc, hdat⟩ := hm
    show wpAny _ _ (dictSize d >>= _) _ _ s
    unfold dictSize
    refine wpAny_bind (wpAny_bind (wpAny_dictEntries ho hdat (wpAny_pure ?_)))
    show wpAny _ _ (Builtin.Dict.pendingCount d >>= _) _ _ s
    refine wpAny_bind (wpAny_pendingCount_other hd ?_)
    refine wpAny_ret_mkInt ?_
    rw [Nat.add_zero]; exact h

theorem len_raw {d : Addr} {es : Array DictEntry} {ep : Nat} {E : Value → Shared → Prop} {Q : Value → Shared → Prop} (hd : (d == sysModules) = false) (hm : RawAt s.heap d es ep) (hfit : (es.size : Int) < 2 ^ 63)
    (h : Q (.int es.size (s.toks + 1)) { s with toks := s.toks + 1 + 1 }) : wpAny (model prog w) A (call (.builtin "len") [.ref d]) Q E s := by
  refine Calls.call_function_entry kind_len plain_len entry_len (args_len1 _) ?_
  unfold Builtin.«len»
  refine wpAny_bind (m := oneArg "len" _) (wpAny_pure ?_)
  refine wpAny_bind (m := callSpecial? (.ref d) (Str.ofString "__len__")) (wpAny_callSpecial?_slot (name := Str.ofString "__len__") hm.typeIs F.slot_dict_len
    (call_meetsIn F.slot_dict_len hm.typeIs F.entry_dict_len (F.args_dict_len_1 _) (meets_len_raw d hd) ⟨es, ep, hm, ?_⟩))
  show wpAny _ _ _ _ _ { s with toks := s.toks + 1 }
  refine wpAny_bind (wpAny_holding (wpAny_pure (wpAny_bind (wpAny_letGo ?_))))
  show wpAny _ _ (if ((es.size : Nat) : Int) < 0 then _ else _) _ _ _
  rw [if_neg (by (first | lia | omega))]
  show wpAny _ _ (if ((es.size : Nat) : Int) ≥ 2 ^ 63 then _ else _) _ _ _
  rw [if_neg (by (first | lia | omega))]
  exact wpAny_bind (wpAny_mkInt (wpAny_pure ⟨_, rfl, h⟩))

theorem len_dict {ks vs : List PV} {r : PV} {cv : Value} (e : lenP (.dict ks vs) = some r) (rv : VRep prog w s.heap (fun _ => True) (.dict ks vs) cv) : Gets prog w A s (call (.builtin "len") [cv]) (Oks true pub) r := by
  have e' : (if szOk ks.length = true then some (PV.int ks.length) else none) = some r := e
  split at e'
  · rename_i hz
    cases e'
    obtain ⟨d, es, ep, rfl, hds, hm, _, hks, _⟩ := dict_raw rv
    have hlen : ks.length = es.size := by have := (hks fun _ => True).length; simpa using this
    have := szOk_small hz
    refine fun E Q q => len_raw hds hm (by (first | lia | omega)) ?_
    rw [← hlen]
    exact q _ s.heap _ (stays_refl _) fun _ _ => .int _ _
  · cases e'
end
end Mine

namespace Mine
open PySem PySem.Calls PyProof.Rows PySem.W PySem.SeqAt

section
variable {prog : Program} {w : World} {A : Around} {s : Shared} {n : Nat} {pub : Pubs}

end
end Mine

namespace Mine
open PySem PySem.Calls PyProof.Rows PySem.W PySem.SeqAt

section
variable {prog : Program} {w : World} {A : Around} {s : Shared} {n : Nat} {pub : Pubs}

end
end Mine

namespace Mine
open PySem PySem.Calls PyProof.Rows PySem.W PySem.SeqAt

section
variable {prog : Program} {w : World} {A : Around} {s : Shared} {n : Nat} {pub : Pubs}

end
end Mine

namespace Mine
open PySem PySem.Calls PyProof.Rows PySem.W PySem.SeqAt
open AutoSeq1 (wpAny_loadPart')
open MeetsSeq MeetsSeq2 MeetsSeq3 SeqRoads2

section
variable {prog : Program} {w : World} {A : Around} {s : Shared} {n : Nat} {pub : Pubs}

end
end Mine

namespace Mine
open PySem PySem.Calls PyProof.Rows PySem.W PySem.SeqAt
open MeetsSeq

section
variable {prog : Program} {w : World} {h : Heap} {A : Around} {s : Shared} {n : Nat} {pub : Pubs}

theorem leaf_meth1 {name : Str} {o x r : PV} {co : Value} (rm : Room A n) (e : meth1 name o x = some r) (ro : VRep prog w s.heap (fun _ => True) o co) :
    MethOf s name co fun id => ∀ h' tk cx, s.heap.StaysIn h' → VRep prog w h' (fun _ => True) x cx → Gets prog w A { s with heap := h', toks := tk } (call (.builtin id) [co, cx]) (Oks true pub) r := by
  cases h1 : strEq name "count" with
  | true =>
    have e := (onlyT h1 e)
    obtain rfl := strEq_iff.mp h1
    cases o with
    | tup l => exact count_tup rm e ro
    | _ => exact noS e
  | false =>
    have e := (onlyF h1 e)
    exact noS e
end
end Mine

namespace Mine
open PySem PySem.Calls PyProof.Rows PySem.W PySem.SeqAt

section
variable {prog : Program} {w : World} {A : Around} {E : Value → Shared → Prop} {s : Shared}

theorem range_getD {α : Type} (vs : List α) (d : α) : ((List.range vs.length).map fun i => vs.getD i d) = vs := by
  refine List.ext_getElem? fun i => ?_
  rw [List.getElem?_map]
  by_cases h : i < vs.length
  · simp [h]
  · simp [h]
theorem kwp_runO {α : Type} {cmp : Nat → Nat → (Bool → Shared → Prop) → Shared → Prop} {lt : Nat → Nat → Option Bool} {s : Shared} (hc : ∀ i j b C, lt i j = some b → C b s → cmp i j C s) (Q : α → Shared → Prop) : ∀ {t : KasT α} {a : α}, krunO lt t = some a → Q a s → t.kasWp cmp Q s
  | .ret _, _, e, q => Option.some.inj e ▸ q
  | .ask _ _ _, _, e, q => let ⟨_, hb, e⟩ := bnd e; hc _ _ _ _ hb (kwp_runO hc Q e q)

theorem sort_own {a : Addr} {vs : List Value} {n : Nat} {κ : SortKind} {lt : Nat → Nat → Option Bool} {q : List Nat} {P : PySem.Fin → Shared → Prop} (ho : s.heap.get? a = some (seqObj "list" vs.toArray n)) (h64 : vs.length < 64)
    (hq : vs.length < 2 → q = List.range vs.length)
    (hk : 2 ≤ vs.length → ∃ p, krunO lt (kas_sort vs.length) = some p ∧ p.toList = q ∧ ∀ h' : Heap, (∀ b o, b ≠ a → s.heap.get? b = some o → h'.get? b = some o) → (∀ (E' : Value → Shared → Prop) (Q : SortKind → Shared → Prop), Q κ { s with heap := h' } → wpAny (model prog w) A (keyKind' vs.toArray) Q E' { s with heap := h' }) ∧
      ∀ i j b (C : Bool → Shared → Prop), lt i j = some b → C b { s with heap := h' } → kas_ask prog w A κ vs i j C { s with heap := h' })
    (h : ∀ h' c, (∀ b o, b ≠ a → s.heap.get? b = some o → h'.get? b = some o) → h'.get? a = some (seqObj "list" (q.map fun i => vs.getD i Value.none).toArray c) → P (.done (.ret .none)) { s with heap := h' }) :
    wpAny (model prog w) A (Builtin.«list.sort» ⟨[.ref a], []⟩) P E s := by
  have ha : a < s.heap.objs.size := Heap.lt_size ho
  obtain ⟨e1, ho1⟩ : ∃ e1, (s.heap.update a (Obj.mapSeq fun _ => (#[] : Array Value))).get? a = some (seqObj "list" #[] e1) := ⟨_, get?_update_seq ho fun _ => #[]⟩
  have keep : ∀ b o, b ≠ a → s.heap.get? b = some o → (((s.heap.update a (Obj.mapSeq fun _ => (#[] : Array Value))).push (seqObj "tuple" vs.toArray 0)).push (seqObj "list" #[] 0)).get? b = some o := fun b o hb e =>
    Heap.get?_push_of_some _ (Heap.get?_push_of_some _ ((Heap.get?_update_ne _ _ _ _ hb).trans e))
  have hoH : (((s.heap.update a (Obj.mapSeq fun _ => (#[] : Array Value))).push (seqObj "tuple" vs.toArray 0)).push (seqObj "list" #[] 0)).get? a = some (seqObj "list" #[] e1) := Heap.get?_push_of_some _ (Heap.get?_push_of_some _ ho1)
  have fin : ∀ (out : Array Value), out.toList = (q.map fun i => vs.getD i Value.none) →
      P (.done (.ret .none)) { s with heap := ((((s.heap.update a (Obj.mapSeq fun _ => (#[] : Array Value))).push (seqObj "tuple" vs.toArray 0)).push (seqObj "list" #[] 0)).update a (Obj.mapSeq fun _ => out)) } := fun out he => by
    have e2 := get?_update_seq hoH fun _ => out
    have e3 : out = (q.map fun i => vs.getD i Value.none).toArray := by rw [← he]
    exact h _ _ (fun b o hb e => (Heap.get?_update_ne _ _ _ _ hb).trans (keep b o hb e)) (by rw [← e3]; exact e2)
  generalize hH : ((s.heap.update a (Obj.mapSeq fun _ => (#[] : Array Value))).push (seqObj "tuple" vs.toArray 0)).push (seqObj "list" #[] 0) = H at *
  rw [list_sort_plain]
  refine wpAny_bind (listItems_at ho rfl ?_)
  refine wpAny_bind (listUpdate_at ho rfl ?_ (by rw [List.size_toArray, sizeLine_eq]; (first | lia | omega)) (Nat.zero_le _))
  refine wpAny_bind (seqEpoch_at ho1 rfl ?_)
  refine wpAny_bind (wpAny_newTuple ?_ (by show vs.length ≤ _; rw [sizeLine_eq]; (first | lia | omega)))
  refine wpAny_bind (wpAny_newList ?_ (Nat.zero_le _))
  refine wpAny_holding ?_
  dsimp only
  rw [hH]
  show wpAny (model prog w) A _ P E { s with heap := H }
  by_cases hn2 : vs.toArray.size < 2
  · rw [if_pos hn2, if_pos hn2]
    refine wpAny_bind (wpAny_pure ?_)
    rw [StateT.run_pure]
    refine wpAny_bind (wpAny_pure ?_)
    dsimp only
    refine wpAny_bind (seqEpoch_at hoH rfl ?_)
    refine wpAny_bind (listUpdate_at hoH rfl ?_ (Nat.zero_le _) (by rw [Array.size_map]; show (PyProof.Rows.pairsOf vs).size ≤ _; rw [pairsOf_size, sizeLine_eq]; (first | lia | omega)))
    simp only [bne_self_eq_false, Bool.false_eq_true, if_false]
    refine wpAny_pure (fin _ ?_)
    rw [hq hn2, range_getD]
    show ((vs.toArray.zip vs.toArray).map (·.2)).toList = vs
    rw [Array.toList_map, Array.toList_zip, List.map_snd_zip (by simp)]
  · rw [if_neg hn2, if_neg hn2]
    have h2 : 2 ≤ vs.length := by rw [List.size_toArray] at hn2; (first | lia | omega)
    obtain ⟨p, hp, rfl, hkA⟩ := hk h2
    obtain ⟨hkk, hask⟩ := hkA _ keep
    refine wpAny_bind (hkk _ _ ?_)
    refine wpAny_bind (wpAny_mono (kat_run (ks := vs) (κ := κ) (vs := vs) (Q := fun st' s' => s' = { s with heap := H } ∧
        (arrOf st' = p.map (kas_item (vs.toArray.zip vs.toArray)) ∧ p.size = vs.length) ∧ failedOf st' = none)
      (G := fun p' s' => p' = p ∧ s' = { s with heap := H })
      rfl h2 h64 (fun p' st' s' a1 a2 a3 a4 => ⟨a4.2, ⟨by rw [a2, a4.1], a4.1 ▸ a1⟩, a3⟩) (kwp_runO hask _ hp ⟨rfl, rfl⟩)) ?_ fun _ _ e => e)
    rintro ⟨⟨⟩, st'⟩ s' ⟨rfl, ⟨har, hsz⟩, hf⟩
    dsimp only
    have hout := kat_snds rfl har
    refine wpAny_bind (seqEpoch_at hoH rfl ?_)
    refine wpAny_bind (listUpdate_at hoH rfl ?_ (Nat.zero_le _) (by rw [hout, List.size_toArray, List.length_map, Array.length_toList, hsz, sizeLine_eq]; (first | lia | omega)))
    rw [hf]
    simp only [bne_self_eq_false, Bool.false_eq_true, if_false]
    exact wpAny_pure (fin _ (by rw [hout]))
end
end Mine

namespace Mine
open PySem PySem.Calls PyProof.Rows PySem.W PySem.SeqAt

section
variable {prog : Program} {w : World} {A : Around} {s : Shared} {n : Nat} {pub : Pubs} {ok ok' : Addr → Prop}

theorem VAll.getD {h : Heap} {l : List PV} {vs : List Value} (r : VAll prog w h ok l vs) {i : Nat} (hi : i < l.length) : VRep prog w h ok (l.getD i .none) (vs.getD i Value.none) := by
  obtain ⟨v, hv, rv⟩ := r.get (show l[i]? = some l[i] from List.getElem?_eq_getElem hi)
  have e1 : l.getD i .none = l[i] := by simp [hi]
  have e2 : vs.getD i Value.none = v := by rw [List.getD_eq_getElem?_getD, hv]; rfl
  rw [e1, e2]; exact rv

theorem lex_kat {C : Bool → Shared → Prop} {m : Nat} (hu : A.units + 1 + m < cLine) {fin : Bool} : ∀ {l k : List PV} {us vs : List Value} {b : Bool} {i : Nat}, VAll prog w s.heap ok l us → VAll prog w s.heap ok' k vs → 0 < i → fin = decide (us.length < vs.length) → ltsL (eqN m) (ltN m) l k = some b → C b s →
    KatLex prog w A true fin C (us.zip vs) i s
  | [], k, us, vs, b, i, p, q, _, hf, e, c => by
    obtain rfl := p.nil_inv
    cases k with
    | nil => obtain rfl := q.nil_inv; cases (show some false = some b from e); rw [hf]; exact kat_nil c
    | cons y k => obtain ⟨_, _, rfl, _, _⟩ := q.cons_inv; cases (show some true = some b from e); rw [hf]; exact kat_nil c
  | x :: l, k, us, vs, b, i, p, q, hi, hf, e, c => by
    obtain ⟨u, us, rfl, p, r⟩ := p.cons_inv
    cases k with
    | nil => obtain rfl := q.nil_inv; cases (show some false = some b from e); rw [hf]; exact kat_nil c
    | cons y k =>
      obtain ⟨v, vs, rfl, q, t⟩ := q.cons_inv
      have e : ltStep (eqN m x y) (ltN m x y) (ltsL (eqN m) (ltN m) l k) = some b := e
      cases h : eqN m x y with
      | none => rw [h] at e; exact noS e
      | some d =>
        rw [h] at e
        refine kat_cons ((eq_sound m (A := A) (by (first | lia | omega)) p q h).1 prog w _ _ ?_)
        cases d with
        | true => exact kat_yes (lex_kat hu r t (Nat.succ_pos _) (hf.trans (decide_eq_decide.mpr Nat.succ_lt_succ_iff)) e c)
        | false =>
          refine kat_no ?_
          have : (true && i == 0) = false := beq_eq_false_iff_ne.mpr (Nat.ne_of_gt hi)
          rw [this]
          exact kat_one _ _ (lt_sound m (A := A) (by (first | lia | omega)) p q e prog w _ _ (show PySem.W.BoolBack C (.bool b) s from c))

theorem one_ints {a b : Int} {t u : Tok} {C : Bool → Shared → Prop} {c : Bool} {m : Nat} (e : ltN (m + 1) (.int a) (.int b) = some c) (h : C c s) {E : Value → Shared → Prop} : wpAny (model prog w) A (oneLt' true (.int a t) (.int b u)) C E s :=
  oneLt_int (by rw [show decide (a < b) = c from Option.some.inj e]; exact h)
theorem isInt_eq {x : PV} (h : isIntP x = true) : ∃ i, x = .int i := by cases x <;> first | exact ⟨_, rfl⟩ | cases h
theorem head_eq {x : PV} (h : headP x ≠ .none) : ∃ f r, x = .tup (f :: r) := by
  cases x with
  | tup l =>
    cases l with
    | nil => exact absurd rfl h
    | cons f r => exact ⟨f, r, rfl⟩
  | _ => exact absurd rfl h
theorem tupInt_eq {x : PV} (h : tupInt x = true) : ∃ i r, x = .tup (.int i :: r) := by
  obtain ⟨i, hi⟩ := isInt_eq h
  obtain ⟨f, r, rfl⟩ := head_eq (x := x) (by rw [hi]; exact nofun)
  exact ⟨i, r, by rw [show f = .int i from hi]⟩

noncomputable def TupOk (x y : PV) : Prop :=
  (tupInt x = true ∧ tupInt y = true)
noncomputable def HeadOk (f g : PV) : Prop :=
  (∃ i j, f = .int i ∧ g = .int j)
theorem TupOk.int {x y : PV} (h : tupInt x = true ∧ tupInt y = true) : TupOk x y := by
  exact h
theorem TupOk.heads {x y : PV} (hk : TupOk x y) : ∃ f r g t, x = .tup (f :: r) ∧ y = .tup (g :: t) ∧ HeadOk f g := by
  obtain ⟨i, r, rfl⟩ := tupInt_eq hk.1
  obtain ⟨j, t, rfl⟩ := tupInt_eq hk.2
  refine ⟨_, _, _, _, rfl, rfl, ?_⟩
  exact ⟨i, j, rfl, rfl⟩
theorem ask_tup {x y : PV} {u v : Value} {c : Bool} {C : Bool → Shared → Prop} {E : Value → Shared → Prop} (hu : A.units + 8 < cLine) (hk : TupOk x y) (rx : VRep prog w s.heap ok x u) (ry : VRep prog w s.heap ok' y v)
    (e : PV.lt x y = some c) (h : C c s) : wpAny (model prog w) A (keyLt' (tuples' true) u v) C E s := by
  obtain ⟨f, r, g, t, rfl, rfl, hfg⟩ := hk.heads
  obtain ⟨a, items, rfl, ⟨m, hl⟩, ha⟩ := rx.tup_inv
  obtain ⟨b, items2, rfl, ⟨m2, hl2⟩, ha2⟩ := ry.tup_inv
  refine kat_lt hl rfl hl2 rfl ?_
  have hf : decide (items.size < items2.size) = decide (items.toList.length < items2.toList.length) := rfl
  rw [hf]
  generalize items.toList = us at *
  generalize items2.toList = vs at *
  obtain ⟨u, us, rfl, p, r'⟩ := ha.cons_inv
  obtain ⟨v, vs, rfl, q, t'⟩ := ha2.cons_inv
  have e' : ltStep (eqN 5 f g) (ltN 5 f g) (ltsL (eqN 5) (ltN 5) r t) = some c := e
  cases hq : eqN 5 f g with
  | none => rw [hq] at e'; exact noS e'
  | some d =>
    rw [hq] at e'
    show KatLex prog w A true _ C ((u, v) :: us.zip vs) 0 s
    refine kat_cons ((eq_sound 5 (A := A) (by (first | lia | omega)) p q hq).1 prog w _ _ ?_)
    cases d with
    | true => exact kat_yes (lex_kat (m := 5) (by (first | lia | omega)) r' t' (Nat.succ_pos _) (decide_eq_decide.mpr Nat.succ_lt_succ_iff) e' h)
    | false =>
      refine kat_no ?_
      obtain ⟨i, j, rfl, rfl⟩ := hfg
      obtain ⟨_, rfl⟩ := p.int_inv
      obtain ⟨_, rfl⟩ := q.int_inv
      exact one_ints (m := 4) e' h

theorem looks_int (M : Model) (h : Heap) (i : Int) (t : Tok) : Looks M h (typeOf (.int i t)) (.type "int") := Looks.of_pure rfl
theorem firsts {M : Model} {T : Value} {P : PV → Bool} (hP : ∀ x u h, P x = true → VRep prog w h ok x u → ∃ a items m f, u = .ref a ∧ IsT h a items m ∧ items[0]? = some f ∧ Looks M h (typeOf f) T) : ∀ {l : List PV} {vs : List Value}, l.all P = true → VAll prog w s.heap ok l vs → ∃ fs : List Value, KatTups s.heap vs fs ∧ fs.length = vs.length ∧ ∀ f ∈ fs, Looks M s.heap (typeOf f) T
  | [], vs, _, r => by rw [r.nil_inv]; exact ⟨[], KatTups.nil, rfl, fun f hf => by cases hf⟩
  | x :: l, vs, h, r => by
    obtain ⟨u, us, rfl, p, r⟩ := r.cons_inv
    obtain ⟨h1, h2⟩ := two (show (P x && l.all P) = true from h)
    obtain ⟨fs, i1, i2, i3⟩ := firsts hP h2 r
    obtain ⟨a, items, m, f, rfl, hl, hf, lk⟩ := hP x u _ h1 p
    exact ⟨f :: fs, KatTups.cons hl rfl rfl hf i1, congrArg (· + 1) i2, fun g hg => by
      rcases List.mem_cons.mp hg with rfl | hg
      · exact lk
      · exact i3 g hg⟩

theorem asks {l : List PV} (hk : kindOk l = true) (hu : A.units + 8 < cLine) : ∃ κ : SortKind, ∀ (s : Shared) (vs : List Value), VAll prog w s.heap (fun _ => True) l vs → 2 ≤ vs.length →
    (∀ (E' : Value → Shared → Prop) (Q : SortKind → Shared → Prop), Q κ s → wpAny (model prog w) A (keyKind' vs.toArray) Q E' s) ∧
    ∀ i j b (C : Bool → Shared → Prop), askP l i j = some b → C b s → kas_ask prog w A κ vs i j C s := by
  have two : ∀ {P : PV → Bool} {vs : List Value} {s : Shared} {κ : SortKind}, l.all P = true → VAll prog w s.heap (fun _ => True) l vs →
      (∀ x y u v c (C : Bool → Shared → Prop), P x = true → P y = true → VRep prog w s.heap (fun _ => True) x u → VRep prog w s.heap (fun _ => True) y v → PV.lt x y = some c → C c s → wpAny (model prog w) A (keyLt' κ u v) C (fun _ _ => False) s) →
      ∀ i j b (C : Bool → Shared → Prop), askP l i j = some b → C b s → kas_ask prog w A κ vs i j C s := fun {P vs s κ} h ha hlt i j b C e c => by
    obtain ⟨x, hx, e⟩ := bnd e
    obtain ⟨y, hy, e⟩ := bnd e
    obtain ⟨u, hu, ru⟩ := ha.get hx
    obtain ⟨v, hv, rv⟩ := ha.get hy
    unfold kas_ask
    rw [List.getD_eq_getElem?_getD, List.getD_eq_getElem?_getD, hu, hv]
    exact hlt x y u v b C (List.all_eq_true.mp h _ (List.mem_of_getElem? hx)) (List.all_eq_true.mp h _ (List.mem_of_getElem? hy)) ru rv e c
  have plain : ∀ {P : PV → Bool} {T : String}, l.all P = true → (Value.type T != Value.type "tuple") = true → (Value.type T == Value.type T) = true → (∀ x u h (M : Model), P x = true → VRep prog w h (fun _ => True) x u → Looks M h (typeOf u) (.type T)) →
      (∀ x y u v (s : Shared) (C : Bool → Shared → Prop) c, P x = true → P y = true → VRep prog w s.heap (fun _ => True) x u → VRep prog w s.heap (fun _ => True) y v → PV.lt x y = some c → C c s → wpAny (model prog w) A (oneLt' true u v) C (fun _ _ => False) s) →
      ∀ (s : Shared) (vs : List Value), VAll prog w s.heap (fun _ => True) l vs → 2 ≤ vs.length →
    (∀ (E' : Value → Shared → Prop) (Q : SortKind → Shared → Prop), Q oneType' s → wpAny (model prog w) A (keyKind' vs.toArray) Q E' s) ∧
    ∀ i j b (C : Bool → Shared → Prop), askP l i j = some b → C b s → kas_ask prog w A oneType' vs i j C s := fun {P T} h hT1 hT2 hlk hlt s vs ha h2 => by
    refine ⟨fun E' Q q => kas_kind h2 (fun v hv => ?_) hT1 hT2 q, two h ha fun x y u v c C hx hy ru rv e hc => ?_⟩
    · obtain ⟨i, hi⟩ := List.mem_iff_getElem?.mp hv
      obtain ⟨x, hx, rx⟩ := ha.get' hi
      exact hlk x v _ _ (List.all_eq_true.mp h _ (List.mem_of_getElem? hx)) rx
    · rw [keyLt'_oneType]
      exact hlt _ _ _ _ s C _ hx hy ru rv e hc
  have tups : ∀ {P : PV → Bool} {T : String}, l.all P = true → (Value.type T != Value.type "tuple") = true → (Value.type T == Value.type T) = true → (∀ (M : Model) x u h, P x = true → VRep prog w h (fun _ => True) x u → ∃ a items m f, u = .ref a ∧ IsT h a items m ∧ items[0]? = some f ∧ Looks M h (typeOf f) (.type T)) →
      (∀ x y, P x = true → P y = true → TupOk x y) →
      ∀ (s : Shared) (vs : List Value), VAll prog w s.heap (fun _ => True) l vs → 2 ≤ vs.length →
    (∀ (E' : Value → Shared → Prop) (Q : SortKind → Shared → Prop), Q (tuples' true) s → wpAny (model prog w) A (keyKind' vs.toArray) Q E' s) ∧
    ∀ i j b (C : Bool → Shared → Prop), askP l i j = some b → C b s → kas_ask prog w A (tuples' true) vs i j C s := fun {P T} h hT1 hT2 hlk hk s vs ha h2 => by
    refine ⟨fun E' Q q => ?_, two h ha fun x y u v c C hx hy ru rv e hc => ask_tup hu (hk _ _ hx hy) ru rv e hc⟩
    obtain ⟨fs, f1, f2, f3⟩ := firsts (hlk (model prog w)) h ha
    exact kat_kind f1 (by (first | lia | omega)) f3 hT2 (by rw [hT1]; exact q)
  unfold kindOk at hk
  rcases (Bool.or_eq_true _ _).mp hk with hk | hk
  · refine ⟨oneType', plain (T := "int") hk (by decide) (by decide) (fun x u h M hx r => ?_) fun x y u v s C c hx hy rx ry e hc => ?_⟩
    · obtain ⟨i, rfl⟩ := isInt_eq hx
      obtain ⟨t, rfl⟩ := r.int_inv
      exact looks_int _ _ _ _
    · obtain ⟨i, rfl⟩ := isInt_eq hx
      obtain ⟨j, rfl⟩ := isInt_eq hy
      obtain ⟨t, rfl⟩ := rx.int_inv
      obtain ⟨t', rfl⟩ := ry.int_inv
      exact one_ints (m := 5) e hc
  · refine ⟨tuples' true, tups (T := "int") hk (by decide) (by decide) (fun M x u h hx r => ?_) fun x y hx hy => TupOk.int ⟨hx, hy⟩⟩
    obtain ⟨i, q, rfl⟩ := tupInt_eq hx
    obtain ⟨a, items, rfl, ⟨m, hl⟩, ha⟩ := r.tup_inv
    obtain ⟨f, us, e, rf, _⟩ := ha.cons_inv
    obtain ⟨t, rfl⟩ := rf.int_inv
    exact ⟨a, items, m, _, rfl, hl, by rw [← Array.getElem?_toList, e]; rfl, looks_int _ _ _ _⟩
end
end Mine

namespace Mine
open PySem PySem.Calls PyProof.Rows PySem.W PySem.SeqAt

section
variable {prog : Program} {w : World} {A : Around} {s : Shared} {n : Nat} {pub : Pubs} {ok ok' : Addr → Prop}

theorem kdl_raw {d : Addr} {es : Array DictEntry} {ep : Nat} (lo : (d == sysModules) = false) : KdlSrc prog w "dict" d d es.size (fun i v => (es.toList.map (·.key))[i]? = some v) (fun h => RawAt h d es ep) where
  type := fun _ hm => hm.typeIs
  there := fun _ hm => let ⟨_, e, _⟩ := hm; ⟨Heap.lt_size e, Heap.lt_size e⟩
  keep := fun _ _ hm hk => hm.at fun o e => hk d (.inl rfl) o e
  notList := by decide
  notTuple := by decide
  hint := fun _ _ _ _ hm hq => kdl_hint_dict hm.typeIs hq
  iter := fun _ _ hh hm => ⟨_, _, (fun _ _ hq => raw_pyIter lo hm hq), walks_keys hh (let ⟨_, e, _⟩ := hm; Nat.ne_of_lt (Heap.lt_size e)), ⟨⟨_, Heap.get?_push_size _ rfl, rfl, rfl⟩, hm.at fun o e => Heap.get?_push_of_some _ e⟩⟩

noncomputable def itemsOf : PV → Option (List PV)
  | .list l => some l
  | .tup l => some l
  | .dict ks _ => some ks
  | _ => none

theorem collect_own {v : PV} {l : List PV} {cv : Value} {E : Value → Shared → Prop} {R : List Value → Shared → Prop} (hh : A.handled = none) (e : itemsOf v = some l) (hz : l.length < 64) (rv : VRep prog w s.heap (fun _ => True) v cv)
    (q : ∀ h' tk us, s.heap.StaysIn h' → VAll prog w h' (fun _ => True) l us → R us { s with heap := h', toks := tk }) : wpAny (model prog w) A (collect cv) R E s := by
  cases v with
  | list l' =>
    cases e
    cases rv with | list o hl ha =>
    rename_i a items
    have hlen : l.length = items.size := by have := ha.length; simpa using this
    obtain ⟨m, hl⟩ := hl
    exact wpAny_collect_seq a (.inl rfl) hl rfl rfl (fun h' st => q h' s.toks _ st (ha.stays st fun _ x => x)) (by rw [sizeLine_eq]; (first | lia | omega))
  | tup l' =>
    cases e
    cases rv with | tup hl ha =>
    rename_i a items
    have hlen : l.length = items.size := by have := ha.length; simpa using this
    obtain ⟨m, hl⟩ := hl
    exact wpAny_collect_seq a (.inr rfl) hl rfl rfl (fun h' st => q h' s.toks _ st (ha.stays st fun _ x => x)) (by rw [sizeLine_eq]; (first | lia | omega))
  | dict ks vs =>
    cases e
    obtain ⟨d, es, ep, rfl, hds, hm, _, hks, _⟩ := dict_raw rv
    have va := hks fun _ => True
    have hlen : l.length = es.size := by have := va.length; simpa using this
    refine kdu_collect (kdl_raw (ep := ep) hds) hh hm (by rw [sizeLine_eq]; (first | lia | omega)) fun h' tk acc st hi => q h' tk _ st ?_
    have e1 : acc.toList = es.toList.map (·.key) := by
      refine List.ext_getElem? fun i => ?_
      by_cases hlt : i < acc.size
      · have h1 : acc[i]? = some acc[i] := Array.getElem?_eq_getElem hlt
        rw [Array.getElem?_toList, h1]
        exact (hi.2 i _ h1).symm
      · rw [Array.getElem?_toList, Array.getElem?_eq_none (by (first | lia | omega)), List.getElem?_eq_none (by have := hi.1; simp; (first | lia | omega))]
    rw [e1]
    exact va.stays st fun _ x => x
  | _ => cases e

theorem sortP_is {l : List PV} {v : PV} (e : sortP l = some v) : PV.imms l = true ∧ l.length < 64 ∧ ∃ q, v = .list (q.map fun i => l.getD i .none) ∧ (l.length < 2 → q = List.range l.length) ∧ (2 ≤ l.length → kindOk l = true ∧ ∃ p, krunO (askP l) (kas_sort l.length) = some p ∧ p.toList = q) := by
  obtain ⟨hc, e⟩ := ifO e
  obtain ⟨h1, h2⟩ := two hc
  obtain ⟨q, hq, e⟩ := bnd e
  refine ⟨h1, of_decide_eq_true h2, q, (Option.some.inj e).symm, ?_⟩
  unfold orderP at hq
  by_cases c : l.length < 2
  · rw [if_pos c] at hq
    exact ⟨fun _ => (Option.some.inj hq).symm, fun h => absurd c (Nat.not_lt.mpr h)⟩
  · rw [if_neg c] at hq
    obtain ⟨hk, hq⟩ := ifO hq
    obtain ⟨p, hp, hq⟩ := bnd hq
    exact ⟨fun h => absurd h c, fun _ => ⟨hk, p, hp, Option.some.inj hq⟩⟩
theorem getD_any {h : Heap} {l : List PV} {vs : List Value} (r : VAll prog w h ok l vs) (i : Nat) : VRep prog w h ok (l.getD i .none) (vs.getD i Value.none) := by
  by_cases c : i < l.length
  · exact r.getD c
  · have e1 : l.getD i .none = .none := by simp [Nat.le_of_not_lt c]
    have e2 : vs.getD i Value.none = .none := by simp [r.length ▸ Nat.le_of_not_lt c]
    rw [e1, e2]; exact .none
theorem vall_picks {h : Heap} {l : List PV} {vs : List Value} (r : VAll prog w h ok l vs) : ∀ q : List Nat, VAll prog w h ok (q.map fun i => l.getD i .none) (q.map fun i => vs.getD i Value.none)
  | [] => .nil
  | i :: q => .cons (getD_any r i) (vall_picks r q)

theorem sorted_own {v r : PV} {l : List PV} {cv : Value} (rm : Room A n) (F : ∀ b, s.heap.get? b = none → pub.p b) (e0 : itemsOf v = some l) (e : sortP l = some r) (rv : VRep prog w s.heap (fun _ => True) v cv) : Gets prog w A s (call (.builtin "sorted") [cv]) (Oks true pub) r := by
  obtain ⟨himm, h64, o, rfl, hq, hk⟩ := sortP_is e
  intro E Q q
  have hu : A.in1.in1.units + 8 < cLine := by show A.units + 1 + 1 + 8 < cLine; have := rm.u; (first | lia | omega)
  refine Calls.call_function_entry kind_sorted plain_sorted entry_sorted (args_sorted1 _) ?_
  unfold Builtin.«sorted»
  refine wpAny_bind (m := checkCount "sorted" 1 1 _) (wpAny_pure ?_)
  refine wpAny_bind (collect_own (A := A.in1) rm.h e0 h64 rv fun h1 tk1 us st1 va => ?_)
  have hlen := va.length
  rw [hlen] at h64 hq hk
  refine wpAny_bind (wpAny_newList ?_ (by rw [sizeLine_eq]; (first | lia | omega)))
  have hoL : (h1.push (seqObj "list" us.toArray 0)).get? h1.objs.size = some (seqObj "list" us.toArray 0) := Heap.get?_push_size _ rfl
  have keep : ∀ h' : Heap, (∀ b o, b ≠ h1.objs.size → (h1.push (seqObj "list" us.toArray 0)).get? b = some o → h'.get? b = some o) → h1.StaysIn h' := fun h' k b o e => k b o (Nat.ne_of_lt (Heap.lt_size e)) (Heap.get?_push_of_some _ e)
  obtain ⟨κ, hκ⟩ : ∃ κ : SortKind, 2 ≤ us.length → ∃ p, krunO (askP l) (kas_sort us.length) = some p ∧ p.toList = o ∧ ∀ h' : Heap, (∀ b o, b ≠ h1.objs.size → (h1.push (seqObj "list" us.toArray 0)).get? b = some o → h'.get? b = some o) →
      (∀ (E' : Value → Shared → Prop) (Q : SortKind → Shared → Prop), Q κ { s with heap := h', toks := tk1 } → wpAny (model prog w) A.in1.in1 (keyKind' us.toArray) Q E' { s with heap := h', toks := tk1 }) ∧
      ∀ i j b (C : Bool → Shared → Prop), askP l i j = some b → C b { s with heap := h', toks := tk1 } → kas_ask prog w A.in1.in1 κ us i j C { s with heap := h', toks := tk1 } := by
    by_cases c : 2 ≤ us.length
    · obtain ⟨hkk, p, hp, e⟩ := hk c
      obtain ⟨κ, ask⟩ := asks (prog := prog) (w := w) hkk hu
      exact ⟨κ, fun _ => ⟨p, hp, e, fun h' k => ask { s with heap := h', toks := tk1 } us (va.stays (keep h' k) fun _ x => x) c⟩⟩
    · exact ⟨oneType', fun h => absurd h c⟩
  refine wpAny_bind (wpAny_holding (wpAny_call_entry slot_list_sort ⟨_, hoL, rfl⟩ entry_list_sort (sort_own (s := { s with heap := h1.push (seqObj "list" us.toArray 0), toks := tk1 }) (κ := κ) (lt := askP l) (q := o) hoL h64 hq hκ fun h' c k hnew => ⟨_, rfl, ?_⟩) (args_list_sort _)))
  refine wpAny_pure ⟨_, rfl, ?_⟩
  exact q _ h' tk1 (stays_trans st1 (keep h' k)) fun ok x => .list (Oks.fresh F ok x _ (none_of_stays st1 (fresh_none h1))) ⟨c, hnew⟩ (vall_picks (imms_any himm (va.stays (keep h' k) fun _ x => x)) o)
end
end Mine

namespace Mine
open PySem PySem.Calls PyProof.Rows PySem.W PySem.SeqAt

section
variable {prog : Program} {w : World} {A : Around} {s : Shared} {n : Nat} {pub : Pubs} {ok ok' : Addr → Prop}

end
end Mine

namespace Mine
open PySem PySem.Calls PyProof.Rows PySem.W PySem.SeqAt
open AutoSeq1 (wpAny_loadPart')

section
variable {prog : Program} {w : World} {A : Around} {E : Value → Shared → Prop} {s : Shared}

end
end Mine

namespace Mine
open PySem PySem.Calls PyProof.Rows PySem.W PySem.SeqAt

section
variable {prog : Program} {w : World} {A : Around} {s : Shared} {n : Nat} {pub : Pubs}

theorem leaf_biV {b : BI} {p : Bool} {v r : PV} {cv : Value} (rm : Room A n) (hm : s.heap.get? mainGlobals ≠ none) (e : biV b (p, v) = some r) (F : ∀ b, s.heap.get? b = none → pub.p b) (rv : ∀ ok, Oks p pub ok → VRep prog w s.heap ok v cv) :
    Gets prog w A s (call (biVal b) [cv]) (Oks true pub) r := by
  cases b with
  | len =>
    have e' : lenP v = some r := e
    cases v with
    | list => exact len_list e' (rv _ .T)
    | tup => exact len_tup e' (rv _ .T)
    | dict => exact len_dict e' (rv _ .T)
    | _ => exact noS e'
  | sum =>
    obtain ⟨l, hl, e2⟩ := bnd (show (listL v).bind (fun l => (sumL 0 l).bind fun i => some (PV.int i)) = some r from e)
    obtain rfl := listL_eq hl
    exact sum_list' (p := p) rm e (rv _ .T)
  | sorted => cases v <;> first | exact sorted_own rm F rfl e (rv _ .T) | exact noS e
  | list => cases v <;> first | exact list_of_tup F e rv | exact noS e
  | tuple => cases v <;> first | exact tup_of_list e rv | exact noS e
  | _ => exact noS e

theorem leafs (prog : Program) (w : World) : Leafs prog w where
  biV := leaf_biV
  bi2 := leaf_bi2
  isi := fun _ => leaf_isi
  meth1 := leaf_meth1
  iterV := leaf_iterV
  iterRange := leaf_iterRange
  view := leaf_view
  ofRange := leaf_ofRange2
  put := leaf_put
  lmeth := leaf_lmeth
end
end Mine

namespace Mine
open PySem PySem.Calls PyProof.Rows PySem.W PySem.SeqAt

noncomputable def namesOf (fn : Fn) : List Str := fn.params ++ (fn.dflts.map (·.1)).filter fun x => noneIn x fn.params
noncomputable def scopeOk (fn : Fn) : Bool := fn.scope.kind == .function && !fn.scope.isCoroutine && !fn.scope.isGenerator && allApart (fn.scope.names.map (·.1)) && (fn.scope.names.all fun x => match x.2 with | .free => false | _ => true) &&
  (namesOf fn).all (ownK fn.scope) && allApart (namesOf fn)

theorem fnAt_mk {K : Frag} {hb : Heap} (X : K.In hb) {a : Addr} {fn : Fn} {oc : Value} {od : Option Addr} {osl : Array (Option Value)} {fd : FuncData} (ho : K.lookup a = some ⟨oc, od, .func fd, osl⟩)
    (h1 : fd.globals = mainGlobals ∧ fd.builtins = builtinsNs ∧ fd.closure = [] ∧ fd.body = .stmts fn.body ∧ fd.scope = fn.scope) (h2 : codeIn K fd.code fd.qualname = true) (h3 : scopeOk fn = true)
    (h4 : ∀ as vals vars (s : Shared), K.In s.heap → as.length = vals.length → bindArgsV fn.params as fn.dflts = some vars → ∃ binds, BindsTo s fd ⟨vals, []⟩ binds ∧ Bound vars as vals binds)
    (h5 : ∀ as vars, bindArgsV fn.params as fn.dflts = some vars → vars.map (·.1) = namesOf fn) : FnAt hb a fn := by
  unfold scopeOk at h3
  simp only [Bool.and_eq_true, beq_iff_eq, Bool.not_eq_true'] at h3
  obtain ⟨⟨⟨⟨⟨⟨k1, k2⟩, k3⟩, k4⟩, k5⟩, k6⟩, k7⟩ := h3
  refine ⟨⟨_, fd, X _ _ ho, rfl, h1.1, h1.2.1, h1.2.2.1, h1.2.2.2.1, h1.2.2.2.2, codeRec_of X h2, fun as vals vars s st hl e => h4 as vals vars s (X.keeps st) hl e⟩, k1, k2, k3, allApart_nodup k4, fun x hx => ?_, fun as vars e => ?_⟩
  · have := List.all_eq_true.mp k5 x hx
    intro e; rw [e] at this; cases this
  · have e1 := h5 as vars e
    refine ⟨fun x hx => List.all_eq_true.mp k6 _ (e1 ▸ List.mem_map_of_mem hx), e1 ▸ allApart_nodup k7⟩

theorem bind_plain : ∀ {ps : List Str} {as : List (Mode × PV)} {vars : Vars}, bindArgsV ps as [] = some vars → as.length = ps.length ∧ vars = ps.zip as
  | [], [], vars, e => ⟨rfl, (Option.some.inj e).symm⟩
  | [], _ :: _, vars, e => noS e
  | p :: ps, [], vars, e => noS e
  | p :: ps, a :: as, vars, e => by
    obtain ⟨t, ht, rfl⟩ := bindA e
    obtain ⟨i1, i2⟩ := bind_plain ht
    exact ⟨congrArg (· + 1) i1, by rw [i2]; rfl⟩
theorem bound_zip : ∀ {ps : List Str} {as : List (Mode × PV)} {vals : List Value}, as.length = ps.length → as.length = vals.length → Bound (ps.zip as) as vals (ps.zip vals)
  | [], [], [], _, _ => .nil
  | p :: ps, a :: as, v :: vs, h1, h2 => .arg (bound_zip (by simpa using h1) (by simpa using h2))
  | [], _ :: _, _, h, _ => by simp at h
  | _ :: _, [], _, h, _ => by simp at h
  | _, [], _ :: _, _, h => by simp at h
  | _, _ :: _, [], _, h => by simp at h

theorem fnAt_plain {K : Frag} {hb : Heap} (X : K.In hb) {a : Addr} {fn : Fn} {oc : Value} {od : Option Addr} {osl : Array (Option Value)} {fd : FuncData} (ho : K.lookup a = some ⟨oc, od, .func fd, osl⟩)
    (h1 : fd.globals = mainGlobals ∧ fd.builtins = builtinsNs ∧ fd.closure = [] ∧ fd.body = .stmts fn.body ∧ fd.scope = fn.scope) (h2 : codeIn K fd.code fd.qualname = true) (h3 : scopeOk fn = true) (hd : fn.dflts = [])
    (h4 : ∀ vals : List Value, vals.length = fn.params.length → bindArgs fd ⟨vals, []⟩ = pure (fn.params.zip vals)) : FnAt hb a fn := by
  refine fnAt_mk X ho h1 h2 h3 (fun as vals vars s _ hl e => ?_) (fun as vars e => ?_)
  · rw [hd] at e
    obtain ⟨i1, rfl⟩ := bind_plain e
    exact ⟨fn.params.zip vals, BindsTo.of_eq (h4 vals (hl.symm.trans i1)), bound_zip i1 hl⟩
  · rw [hd] at e
    obtain ⟨i1, rfl⟩ := bind_plain e
    unfold namesOf
    rw [hd, List.map_fst_zip (by (first | lia | omega))]; simp
end Mine

namespace Mine
open PySem PySem.Calls PyProof.Rows PySem.W PySem.SeqAt

noncomputable def tabAll (P : Str → Fn → Prop) : Tab → Prop
  | [] => True
  | e :: r => P e.1 e.2 ∧ tabAll P r
theorem tabAll_look {P : Str → Fn → Prop} : ∀ {T : Tab}, tabAll P T → ∀ {x fn}, tabLook x T = some fn → P x fn
  | [], _, x, fn, e => by simp [tabLook] at e
  | (y, f) :: r, h, x, fn, e => by
    simp only [tabLook] at e
    split at e
    · rename_i q; cases e; rw [← strEq_iff.mp q]; exact h.1
    · exact tabAll_look h.2 e

noncomputable def biNames : List Str := ["len", "abs", "min", "max", "sum", "sorted", "list", "tuple", "dict", "range", "enumerate", "isinstance"]
theorem or_bif {α : Type} {c : Bool} {a b r : α} (h : (bif c then a else b) = r) : (c = true ∧ a = r) ∨ b = r := match c, h with
  | true, h => .inl ⟨rfl, h⟩
  | false, h => .inr h
theorem biLook_mem {x : Str} {b : BI} : ∀ {T : List (Str × BI)}, biLook x T = some b → (x, b) ∈ T
  | [], h => noS h
  | (y, c) :: r, h => by
    rcases (or_bif (show (bif strEq x y then some c else biLook x r) = some b from h)) with ⟨q, h⟩ | h
    · rw [strEq_iff.mp q, Option.some.inj h]; exact .head _
    · exact .tail _ (biLook_mem h)
theorem biTab_ok : ∀ e ∈ biTab, e.1 ∈ biNames ∧ bootBuiltins e.1 = some (biVal e.2) ∧ e.1 ≠ "__name__" := by decide +kernel
theorem biOf_names {x : Str} {b : BI} (h : biOf x = some b) : x ∈ biNames ∧ bootBuiltins x = some (biVal b) ∧ x ≠ "__name__" := biTab_ok _ (biLook_mem h)

theorem glob_mk {K : Frag} {hb : Heap} (X : K.In hb) {T : Tab} {p : Program} {loose : List Str} {mean : ExcName → Option Value} {mg mb : Str → Option Value} (Tp : Top p loose mean mg mb hb)
    (hfree : (biNames.all fun x => match nsIn K mainGlobals x with | some none => true | _ => false) = true)
    (htab : tabAll (fun x fn => (x == ("__debug__" : Str)) = false ∧ ∃ a, nsIn K mainGlobals x = some (some (.ref a)) ∧ FnAt hb a fn) T) : Glob T hb where
  ns := by
    refine ⟨mg, mb, Tp.g, Tp.b, fun x b e => ?_, fun x fn e => ?_⟩
    · obtain ⟨h1, h2, h3⟩ := biOf_names e
      refine ⟨mg_none_of X Tp.g ?_, (Tp.builtins x h3).trans h2⟩
      have := List.all_eq_true.mp hfree x h1
      split at this
      · assumption
      · cases this
    · obtain ⟨h1, a, h2, h3⟩ := tabAll_look htab e
      exact ⟨h1, a, mg_of X Tp.g h2, h3⟩
  nolimit := Tp.nolimit

section
variable {prog : Program} {w : World} {T : Tab} {hb : Heap} {A : Around} {s : Shared} {n : Nat}

theorem law_code (S : Snd prog w T hb n) (hnl : hb.NoLimit) {a l : Addr} {fn : Fn} {x v : PV} (fat : FnAt hb a fn) (hcon : fn.const = none) (rm : Room A (n + 1)) (st : hb.StaysIn s.heap) (hv : xCall T (n + 1) fn [(.B, x)] = some v) (rx : VRep prog w s.heap (fun _ => True) x (.ref l))
    {R : Result → Shared → Prop} (q : ∀ cv h' tk, s.heap.StaysIn h' → VRep prog w h' (fun _ => True) v cv → R (.ok (.ret cv)) { s with heap := h', toks := tk }) : codeAny (model prog w) A (.call (.ref a) ⟨[.ref l], []⟩) R s := by
  have hv : zCallK (zRec T n) fn.const fn [(.B, x)] = some v := hv
  rw [hcon] at hv
  obtain ⟨vars, hb', hv⟩ := bnd (show (bindArgsV fn.params [(.B, x)] fn.dflts).bind (fun vars => (xSs T n fn.scope vars fn.body).bind fun q => some (retOf q)) = some v from hv)
  obtain ⟨r, hr, hv⟩ := bnd hv
  cases hv
  have noM : ∀ y md v, (y, md, v) ∈ vars → ownM md = false := fun y md v hy => by
    rcases bindArgs_modes hb' y md v hy with rfl | hm
    · rfl
    · have := List.mem_singleton.mp hm; cases this; rfl
  refine codeAny_mono (call_enterC S rm (lent := s.heap.objs.size) (pub := fun _ => True) (E := fun _ _ => False) (Q := fun cv s' => R (.ok (.ret cv)) s') fat hnl st (fun _ _ => trivial) hb' hr (.cons ?_ .nil) (fun y md v hy hm => by rw [noM y md v hy] at hm; cases hm)
      (fun y z my vy mz vz hy _ hm _ => by rw [noM y my vy hy] at hm; cases hm) (.inr noM) fun cv h' tk k ex ends => q cv h' tk (fun b o e => k b o e (.inr noM)) ?_) fun r s' h => ?_
  · exact rx.exist.weaken fun a o => fun e => o.2 (by rw [e]; exact Heap.get?_none_of_le (Nat.le_refl _))
  · cases r with
    | next vars' => obtain ⟨rfl, _⟩ := ends; exact .none
    | ret v => exact ends.1
  · split at h
    · exact h
    · cases h
    · cases h

theorem vall_ints {P : Params} {h : Heap} {ok : Addr → Prop} : ∀ {ns : List Int} {vs : List Value}, WellAll P h vs (ofPys (ns.map PyData.int)) → VAll prog w h ok (ns.map PV.int) vs
  | [], vs, r => by cases r; exact .nil
  | i :: ns, vs, r => by
    cases r with | cons r0 rr =>
    cases r0
    exact .cons (.int _ _) (vall_ints rr)

theorem noConsts (h : tabAll (fun _ fn => fn.const = none) T) : Consts prog w T hb := fun x fn v a hx hc => by
  rw [tabAll_look h hx] at hc; cases hc

theorem law_claim {K : Frag} {p : Program} {loose : List Str} {mean : ExcName → Option Value} {mg mb : Str → Option Value} {fa l : Addr} {ns : List Int} {P : Params} (X : K.In s.heap) (Tp : Top p loose mean mg mb s.heap)
    (hmg : mg "law" = some (.ref fa)) (hw : Well P s.heap (.ref l) (ofPy (PyData.list (ns.map PyData.int)))) (hg : s.gens = #[])
    (hfree : (biNames.all fun x => match nsIn K mainGlobals x with | some none => true | _ => false) = true)
    (htab : tabAll (fun x fn => (x == ("__debug__" : Str)) = false ∧ ∃ a, nsIn K mainGlobals x = some (some (.ref a)) ∧ FnAt s.heap a fn) T) (hc : Consts prog w T s.heap)
    (hrun : ∃ fn, tabLook "law" T = some fn ∧ fn.const = none ∧ xCall T (n + 1) fn [(.B, .list (ns.map .int))] = some (.bool true)) (hn : n ≤ 680)
    {c : ClaimW} {cl : Str → Option Addr} {mean' : ExcName → Option Value} {args : List WData} (h1 : ∀ cls, c.raises args cls = false) (h2 : c.post args (.bool true) args = true) :
    codeAny (model prog w) callerA (.call (.ref fa) ⟨[.ref l], []⟩) (GoodW c cl mean' args s) s := by
  obtain ⟨fn, hf, hcon, hx⟩ := hrun
  have G := glob_mk X Tp hfree htab
  obtain ⟨_, a, ha, fat⟩ := tabAll_look htab hf
  have e := mg_of X Tp.g ha
  rw [hmg] at e
  cases e
  have rx : VRep prog w s.heap (fun _ => True) (.list (ns.map .int)) (.ref l) := by
    have e : ofPy (PyData.list (ns.map PyData.int)) = WData.list (ofPys (ns.map PyData.int)) := by simp only [ofPy]
    rw [e] at hw
    cases hw with | list ho ha =>
    exact .list trivial ⟨_, ho⟩ (by simpa using vall_ints ha)
  refine law_code (snd G (leafs prog w) hc n) G.nolimit fat hcon ⟨rfl, ?_, ?_⟩ (stays_refl _) hx rx fun cv h' tk st r => ?_
  · have e1 : callerA.depth = 301 := rfl
    have e2 : recursionLimit = 1000 := rfl
    (first | lia | omega)
  · have e1 : callerA.units = 4 := rfl
    have e2 : cLine = 9900 := rfl
    (first | lia | omega)
  · cases r
    exact ⟨.inl ⟨_, _, [], rfl, h1, .bool true, h2, fun _ => ⟨.nil, fun a ha => by cases ha⟩⟩, st, rfl, hg⟩
end
end Mine

namespace Mine
open PySem PySem.Calls PyProof.Rows PySem.W PySem.SeqAt

noncomputable def fdNone : FuncData := docDef "" { posonlyargs := [], args := [], vararg := none, kwonlyargs := [], kw_defaults := [], kwarg := none, defaults := [] } [] { kind := .function, names := [], isGenerator := false, isCoroutine := false, more := [] } .none .none .none
noncomputable def isFd (K : Frag) (a : Addr) : Bool := match K.lookup a with
  | some ⟨_, _, .func _, _⟩ => true
  | _ => false
noncomputable def fdAt (K : Frag) (a : Addr) : FuncData := match K.lookup a with
  | some ⟨_, _, .func fd, _⟩ => fd
  | _ => fdNone
theorem fdAt_is {K : Frag} {a : Addr} (h : isFd K a = true) : ∃ oc od osl, K.lookup a = some ⟨oc, od, .func (fdAt K a), osl⟩ := by
  unfold isFd at h
  unfold fdAt
  split at h
  · rename_i c d fd sl q
    rw [q]; exact ⟨_, _, _, rfl⟩
  · cases h
noncomputable def dfltAt0 (K : Frag) (a : Addr) : Value := match (fdAt K a).defaults with
  | .ref t => match K.lookup t with
    | some ⟨_, _, .seq items _, _⟩ => items.getD 0 .none
    | _ => .none
  | _ => .none
noncomputable def tokOf : Value → Tok
  | .int _ t => t
  | _ => 0

structure FnSame (K : Frag) (a : Addr) (fn : Fn) : Prop where
  is : isFd K a = true
  glob : (fdAt K a).globals = mainGlobals
  blt : (fdAt K a).builtins = builtinsNs
  clo : (fdAt K a).closure = []
  body : (fdAt K a).body = .stmts fn.body
  scope : (fdAt K a).scope = fn.scope
  code : codeIn K (fdAt K a).code (fdAt K a).qualname = true
  ok : scopeOk fn = true

theorem fn_plain {K : Frag} {hb : Heap} (X : K.In hb) {a : Addr} {fn : Fn} (S : FnSame K a fn) (hd : fn.dflts = []) (h4 : ∀ vals : List Value, vals.length = fn.params.length → bindArgs (fdAt K a) ⟨vals, []⟩ = pure (fn.params.zip vals)) : FnAt hb a fn := by
  obtain ⟨oc, od, osl, ho⟩ := fdAt_is S.is
  exact fnAt_plain X ho ⟨S.glob, S.blt, S.clo, S.body, S.scope⟩ S.code S.ok hd h4

theorem len_cons {α : Type} {l : List α} {n : Nat} (h : l.length = n + 1) : ∃ a r, l = a :: r ∧ r.length = n := match l, h with
  | a :: r, h => ⟨a, r, rfl, Nat.succ.inj h⟩
theorem len_nil {α : Type} {l : List α} (h : l.length = 0) : l = [] := List.eq_nil_of_length_eq_zero h
theorem fn_plain1 {K : Frag} {hb : Heap} (X : K.In hb) {a : Addr} {fn : Fn} (S : FnSame K a fn) (hd : fn.dflts = []) (hn : fn.params.length = 1) (h : ∀ v1 : Value, bindArgs (fdAt K a) ⟨[v1], []⟩ = pure (fn.params.zip [v1])) : FnAt hb a fn := by
  refine fn_plain X S hd fun vals hv => ?_
  obtain ⟨v1, r, e, hz⟩ := len_cons (hv.trans hn)
  rw [e, len_nil hz]
  exact h v1
theorem fn_plain2 {K : Frag} {hb : Heap} (X : K.In hb) {a : Addr} {fn : Fn} (S : FnSame K a fn) (hd : fn.dflts = []) (hn : fn.params.length = 2) (h : ∀ v1 v2 : Value, bindArgs (fdAt K a) ⟨[v1, v2], []⟩ = pure (fn.params.zip [v1, v2])) : FnAt hb a fn := by
  refine fn_plain X S hd fun vals hv => ?_
  obtain ⟨v1, r, e, hz⟩ := len_cons (hv.trans hn)
  obtain ⟨v2, r2, e2, hz2⟩ := len_cons hz
  rw [e, e2, len_nil hz2]
  exact h v1 v2
theorem fn_dflt {K : Frag} {hb : Heap} (X : K.In hb) {a : Addr} {fn : Fn} (S : FnSame K a fn) {p1 p2 p3 p4 p5 : Str} (names : namesOf fn = [p1, p2, p3, p4, p5]) {u : Value} (hu : u = .int 0 (tokOf u))
    (n0 : bindArgsV fn.params [] fn.dflts = none) (n1 : ∀ a, bindArgsV fn.params [a] fn.dflts = none) (n5 : ∀ a b c d e r, bindArgsV fn.params (a :: b :: c :: d :: e :: r) fn.dflts = none)
    (n2 : ∀ a b, bindArgsV fn.params [a, b] fn.dflts = some [(p1, a), (p2, b), (p3, .P, .int 0), (p4, .P, .none), (p5, .P, .none)])
    (n3 : ∀ a b c, bindArgsV fn.params [a, b, c] fn.dflts = some [(p1, a), (p2, b), (p3, c), (p4, .P, .none), (p5, .P, .none)])
    (n4 : ∀ a b c d, bindArgsV fn.params [a, b, c, d] fn.dflts = some [(p1, a), (p2, b), (p3, c), (p4, d), (p5, .P, .none)])
    (b2 : ∀ S v1 v2, peek K S (bindArgs (fdAt K a) ⟨[v1, v2], []⟩) = some [(p1, v1), (p2, v2), (p3, u), (p4, .none), (p5, .none)])
    (b3 : ∀ S v1 v2 v3, peek K S (bindArgs (fdAt K a) ⟨[v1, v2, v3], []⟩) = some [(p1, v1), (p2, v2), (p3, v3), (p4, .none), (p5, .none)])
    (b4 : ∀ S v1 v2 v3 v4, peek K S (bindArgs (fdAt K a) ⟨[v1, v2, v3, v4], []⟩) = some [(p1, v1), (p2, v2), (p3, v3), (p4, v4), (p5, .none)]) : FnAt hb a fn := by
  obtain ⟨oc, od, osl, ho⟩ := fdAt_is S.is
  have key : ∀ as vars, bindArgsV fn.params as fn.dflts = some vars → vars.map (·.1) = namesOf fn ∧ ∀ vals (s : Shared), K.In s.heap → as.length = vals.length → ∃ binds, BindsTo s (fdAt K a) ⟨vals, []⟩ binds ∧ Bound vars as vals binds := by
    intro as vars e
    rw [names]
    match as with
    | [] => exact noS (n0.symm.trans e)
    | [_] => exact noS ((n1 _).symm.trans e)
    | [a1, a2] =>
      rw [← Option.some.inj ((n2 _ _).symm.trans e)]
      refine ⟨rfl, fun vals s X' hl => ?_⟩
      obtain ⟨v1, r1, e1, z1⟩ := len_cons hl.symm
      obtain ⟨v2, r2, e2, z2⟩ := len_cons z1
      rw [e1, e2, len_nil z2]
      exact ⟨_, kp_binds X' fun S => b2 S v1 v2, .arg (.arg (.dflt ⟨_, hu⟩ (.dflt rfl (.dflt rfl .nil))))⟩
    | [a1, a2, a3] =>
      rw [← Option.some.inj ((n3 _ _ _).symm.trans e)]
      refine ⟨rfl, fun vals s X' hl => ?_⟩
      obtain ⟨v1, r1, e1, z1⟩ := len_cons hl.symm
      obtain ⟨v2, r2, e2, z2⟩ := len_cons z1
      obtain ⟨v3, r3, e3, z3⟩ := len_cons z2
      rw [e1, e2, e3, len_nil z3]
      exact ⟨_, kp_binds X' fun S => b3 S v1 v2 v3, .arg (.arg (.arg (.dflt rfl (.dflt rfl .nil))))⟩
    | [a1, a2, a3, a4] =>
      rw [← Option.some.inj ((n4 _ _ _ _).symm.trans e)]
      refine ⟨rfl, fun vals s X' hl => ?_⟩
      obtain ⟨v1, r1, e1, z1⟩ := len_cons hl.symm
      obtain ⟨v2, r2, e2, z2⟩ := len_cons z1
      obtain ⟨v3, r3, e3, z3⟩ := len_cons z2
      obtain ⟨v4, r4, e4, z4⟩ := len_cons z3
      rw [e1, e2, e3, e4, len_nil z4]
      exact ⟨_, kp_binds X' fun S => b4 S v1 v2 v3 v4, .arg (.arg (.arg (.arg (.dflt rfl .nil))))⟩
    | _ :: _ :: _ :: _ :: _ :: _ => exact noS ((n5 _ _ _ _ _ _).symm.trans e)
  exact fnAt_mk X ho ⟨S.glob, S.blt, S.clo, S.body, S.scope⟩ S.code S.ok (fun as vals vars s X' hl e => (key as vars e).2 vals s X' hl) (fun as vars e => (key as vars e).1)

noncomputable def fnNone : Fn := ⟨[], [], [], { kind := .function, names := [], isGenerator := false, isCoroutine := false, more := [] }, false, none⟩
noncomputable def ent (T : Tab) (i : Nat) : Str × Fn := T.getD i ("", fnNone)
theorem tabAll_nth {P : Str → Fn → Prop} : ∀ {T : Tab}, (∀ i, i < T.length → P (ent T i).1 (ent T i).2) → tabAll P T
  | [], _ => trivial
  | e :: r, h => ⟨h 0 (Nat.succ_pos _), tabAll_nth fun i hi => h (i + 1) (Nat.succ_lt_succ hi)⟩
noncomputable def Upto (P : Nat → Prop) : Nat → Prop
  | 0 => True
  | n + 1 => Upto P n ∧ P n
theorem upto {P : Nat → Prop} : ∀ {n : Nat}, Upto P n → ∀ i, i < n → P i
  | 0, _, _, h => absurd h (Nat.not_lt_zero _)
  | n + 1, h, i, hi => if e : i = n then e ▸ h.2 else upto h.1 i (Nat.lt_of_le_of_ne (Nat.le_of_lt_succ hi) e)
theorem tabAll_upto {P : Str → Fn → Prop} {T : Tab} {n : Nat} (hn : T.length = n) (h : Upto (fun i => P (ent T i).1 (ent T i).2) n) : tabAll P T := tabAll_nth fun i hi => upto h i (hn ▸ hi)
end Mine

namespace Mine
open PySem

theorem run_law {T : Tab} {fn : Fn} {n : Nat} {a : Mode × PV} {x : Str} {st : Stmt} {rest : List Stmt} {vars1 : Vars} {r : PV} (hc : fn.const = none) (hp : fn.params = [x]) (hd : fn.dflts = []) (hb : fn.body = st :: rest)
    (h1 : xS T n fn.scope [(x, a)] st = some (.next vars1)) (h2 : xSs T n fn.scope vars1 rest = some (.ret r)) : xCall T (n + 2) fn [a] = some r := by
  show zCallK (zRec T (n + 1)) fn.const fn [a] = some r
  rw [hc]
  show (bindArgsV fn.params [a] fn.dflts).bind (fun vars => (xSs T (n + 1) fn.scope vars fn.body).bind fun q => some (retOf q)) = some r
  rw [hp, hd, hb]
  show ((xS T n fn.scope [(x, a)] st).bind (zThen (zRec T n) fn.scope rest)).bind (fun q => some (retOf q)) = some r
  rw [h1]
  show (xSs T n fn.scope vars1 rest).bind (fun q => some (retOf q)) = some r
  rw [h2]
  rfl

theorem sumL_ints : ∀ (ns : List Int) (a : Int), sumL a (ns.map .int) = some (a + ns.sum)
  | [], a => congrArg some (Int.add_zero a).symm
  | i :: ns, a => (sumL_ints ns (a + i)).trans (congrArg some (by rw [List.sum_cons, Int.add_assoc]))

theorem stmt_sum {T : Tab} {n : Nat} {sc : Scope} {x y f : Str} {l : List PV} {s k m : Int} {p1 p2 p3 p4 p5 p6 p7 : Pos} {a c : Nat} {b d : Pos} (hx : ownK sc x = true) (hy : kindIn y sc.names = some .local) (ho : oddName y = false) (hf : isG sc f = true) (hbi : biOf f = some .sum) (hne : strEq y x = false) (hyy : strEq y y = true) (hm : 0 < m) (hs : sumL 0 l = some s) :
    xS T (n + 8) sc [(y, .B, .list l)] (.Assign [.Name x p1] (.BinOp (.Constant (.int k) a b) .Add (.BinOp (.Call (.Name f p2) [.Name y p3] [] p4) .Mod (.Constant (.int m) c d) p5) p6) p7) = some (.next [(y, .B, .list l), (x, .P, .int (k + s % m))]) := by
  have e3 : xE T (n + 6) sc [(y, .B, .list l)] (.BinOp (.Constant (.int k) a b) .Add (.BinOp (.Call (.Name f p2) [.Name y p3] [] p4) .Mod (.Constant (.int m) c d) p5) p6) = some (true, .int (k + s % m)) := by
    show ((xE T (n + 5) sc [(y, .B, .list l)] (.Constant (.int k) a b)).bind fun a => (((xE T (n + 4) sc [(y, .B, .list l)] (.Call (.Name f p2) [.Name y p3] [] p4)).bind fun a => (xE T (n + 4) sc [(y, .B, .list l)] (.Constant (.int m) c d)).bind fun b => (evalBin .Mod a.2 b.2).bind fun v => some ((a.1 || okItems a.2) && (b.1 || okItems b.2), v))).bind fun b => (evalBin .Add a.2 b.2).bind fun v => some ((a.1 || okItems a.2) && (b.1 || okItems b.2), v)) = _
    have e2 : xE T (n + 4) sc [(y, .B, .list l)] (.Call (.Name f p2) [.Name y p3] [] p4) = some (true, .int s) := by
      show (bif isG sc f then zFnK T (zRec T (n + 3)) sc [(y, .B, .list l)] f [.Name y p3] (biOf f) else none) = _
      rw [hf, hbi]
      show ((bif oddName y then none else readP (kindIn y sc.names) (match strEq y y with | true => some (Mode.B, PV.list l) | false => none)).bind fun a => biV .sum a).bind (fun v => some (true, v)) = _
      rw [ho, hy, hyy]
      show ((sumL 0 l).bind fun i => some (PV.int i)).bind (fun v => some (true, v)) = _
      rw [hs]
      rfl
    rw [e2]
    show ((if decide (0 < m) = true then some (PV.int (s % m)) else none).bind fun v => some (true, v)).bind (fun b => (evalBin .Add (.int k) b.2).bind fun v => some ((true || okItems (.int k)) && (b.1 || okItems b.2), v)) = _
    rw [if_pos (decide_eq_true hm)]
    rfl
  show (bif ownK sc x then ((xE T (n + 6) sc [(y, .B, .list l)] (.BinOp (.Constant (.int k) a b) .Add (.BinOp (.Call (.Name f p2) [.Name y p3] [] p4) .Mod (.Constant (.int m) c d) p5) p6)).bind pubM).bind (fun s => some (Res.next (setV x s [(y, .B, .list l)]))) else none) = _
  rw [e3, hx]
  show some (Res.next (match strEq y x with | true => [(y, Mode.P, PV.int (k + s % m))] | false => [(y, Mode.B, PV.list l), (x, .P, .int (k + s % m))])) = _
  rw [hne]

noncomputable def headS (l : List Stmt) : Stmt := l.headD (.Pass ⟨0, 0, 0, 0⟩)
noncomputable def isTrueB : PV → Bool
  | .bool b => b
  | _ => false
noncomputable def saysTrue : Option Res → Bool
  | some q => (match q with
    | .ret v => isTrueB v
    | .next _ => false)
  | none => false
theorem saysTrue_eq {o : Option Res} (h : saysTrue o = true) : o = some (.ret (.bool true)) := by
  cases o with
  | none => cases h
  | some q =>
    cases q with
    | next => cases h
    | ret v =>
      cases v with
      | bool b => cases (show b = true from h); rfl
      | _ => cases h
end Mine

open PySem PySem.W PyProof.Rows
set_option maxRecDepth 100000 in
set_option maxHeartbeats 8000000 in
open_top hd for PySem.Challenge.rw_id0004_03

open PySem PySem.W PyProof.Rows Mine
set_option maxHeartbeats 8000000
namespace Mine
noncomputable def T03 : Tab := tabOf Challenge.pw_id0004_03 []
theorem T03_len : T03.length = 8 := by kernel_rfl
theorem T03_law : tabLook "law" T03 = some (ent T03 7).2 := by kernel_rfl

theorem same03 (P : Params) : FnSame (hd.heap_39 P) 23 (ent T03 0).2 ∧ FnSame (hd.heap_39 P) 32 (ent T03 1).2 ∧ FnSame (hd.heap_39 P) 39 (ent T03 2).2 ∧ FnSame (hd.heap_39 P) 46 (ent T03 3).2 ∧ FnSame (hd.heap_39 P) 51 (ent T03 4).2 ∧ FnSame (hd.heap_39 P) 56 (ent T03 5).2 ∧ FnSame (hd.heap_39 P) 63 (ent T03 6).2 ∧ FnSame (hd.heap_39 P) 68 (ent T03 7).2 := by
  refine ⟨?_, ?_, ?_, ?_, ?_, ?_, ?_, ?_⟩ <;> exact ⟨by kernel_rfl, by kernel_rfl, by kernel_rfl, by kernel_rfl, by kernel_rfl, by kernel_rfl, by kernel_rfl, by kernel_rfl⟩

theorem tab03 (P : Params) (h : Heap) (X : (hd.heap_39 P).In h) : tabAll (fun x fn => (x == ("__debug__" : Str)) = false ∧ ∃ a, nsIn (hd.heap_39 P) mainGlobals x = some (some (.ref a)) ∧ FnAt h a fn) T03 := by
  obtain ⟨s0, s1, s2, s3, s4, s5, s6, s7⟩ := same03 P
  exact tabAll_upto T03_len ⟨⟨⟨⟨⟨⟨⟨⟨trivial,
    ⟨by kernel_rfl, 23, by kernel_rfl, fn_dflt X s0 (p1 := "a") (p2 := "x") (p3 := "lo") (p4 := "hi") (p5 := "key") (by kernel_rfl) (u := dfltAt0 (hd.heap_39 P) 23) (by kernel_rfl) (by kernel_rfl) (fun a => by kernel_rfl) (fun a b c d e r => by kernel_rfl) (fun a b => by kernel_rfl) (fun a b c => by kernel_rfl) (fun a b c d => by kernel_rfl) (fun S v1 v2 => by kernel_rfl) (fun S v1 v2 v3 => by kernel_rfl) (fun S v1 v2 v3 v4 => by kernel_rfl)⟩⟩,
    ⟨by kernel_rfl, 32, by kernel_rfl, fn_dflt X s1 (p1 := "a") (p2 := "x") (p3 := "lo") (p4 := "hi") (p5 := "key") (by kernel_rfl) (u := dfltAt0 (hd.heap_39 P) 32) (by kernel_rfl) (by kernel_rfl) (fun a => by kernel_rfl) (fun a b c d e r => by kernel_rfl) (fun a b => by kernel_rfl) (fun a b c => by kernel_rfl) (fun a b c d => by kernel_rfl) (fun S v1 v2 => by kernel_rfl) (fun S v1 v2 v3 => by kernel_rfl) (fun S v1 v2 v3 v4 => by kernel_rfl)⟩⟩,
    ⟨by kernel_rfl, 39, by kernel_rfl, fn_plain2 X s2 (by kernel_rfl) (by kernel_rfl) (fun v1 v2 => by kernel_rfl)⟩⟩,
    ⟨by kernel_rfl, 46, by kernel_rfl, fn_plain1 X s3 (by kernel_rfl) (by kernel_rfl) (fun v1 => by kernel_rfl)⟩⟩,
    ⟨by kernel_rfl, 51, by kernel_rfl, fn_plain1 X s4 (by kernel_rfl) (by kernel_rfl) (fun v1 => by kernel_rfl)⟩⟩,
    ⟨by kernel_rfl, 56, by kernel_rfl, fn_plain2 X s5 (by kernel_rfl) (by kernel_rfl) (fun v1 v2 => by kernel_rfl)⟩⟩,
    ⟨by kernel_rfl, 63, by kernel_rfl, fn_plain1 X s6 (by kernel_rfl) (by kernel_rfl) (fun v1 => by kernel_rfl)⟩⟩,
    ⟨by kernel_rfl, 68, by kernel_rfl, fn_plain1 X s7 (by kernel_rfl) (by kernel_rfl) (fun v1 => by kernel_rfl)⟩⟩
theorem free03 (P : Params) : (biNames.all fun x => match nsIn (hd.heap_39 P) mainGlobals x with | some none => true | _ => false) = true := by kernel_rfl
end Mine

open PySem PySem.W PyProof.Rows Mine
set_option maxRecDepth 1000000
namespace Mine
noncomputable def f03 : Fn := (ent T03 7).2
theorem e03_1 (L : PV) : saysTrue ((zRec T03 300).ss f03.scope [("script", .B, L), ("many", .P, .int 1)] f03.body.tail) = true := by kernel_rfl
theorem e03_2 (L : PV) : saysTrue ((zRec T03 300).ss f03.scope [("script", .B, L), ("many", .P, .int 2)] f03.body.tail) = true := by kernel_rfl
theorem e03_3 (L : PV) : saysTrue ((zRec T03 300).ss f03.scope [("script", .B, L), ("many", .P, .int 3)] f03.body.tail) = true := by kernel_rfl
theorem e03_4 (L : PV) : saysTrue ((zRec T03 300).ss f03.scope [("script", .B, L), ("many", .P, .int 4)] f03.body.tail) = true := by kernel_rfl
theorem e03_5 (L : PV) : saysTrue ((zRec T03 300).ss f03.scope [("script", .B, L), ("many", .P, .int 5)] f03.body.tail) = true := by kernel_rfl
theorem e03_6 (L : PV) : saysTrue ((zRec T03 300).ss f03.scope [("script", .B, L), ("many", .P, .int 6)] f03.body.tail) = true := by kernel_rfl
theorem e03_7 (L : PV) : saysTrue ((zRec T03 300).ss f03.scope [("script", .B, L), ("many", .P, .int 7)] f03.body.tail) = true := by kernel_rfl
theorem e03_8 (L : PV) : saysTrue ((zRec T03 300).ss f03.scope [("script", .B, L), ("many", .P, .int 8)] f03.body.tail) = true := by kernel_rfl
theorem st03 : headS f03.body = .Assign [.Name "many" ⟨63, 4, 63, 8⟩] (.BinOp (.Constant (.int 1) 0 ⟨63, 11, 63, 12⟩) .Add (.BinOp (.Call (.Name "sum" ⟨63, 15, 63, 18⟩) [.Name "script" ⟨63, 19, 63, 25⟩] [] ⟨63, 15, 63, 26⟩) .Mod (.Constant (.int 8) 0 ⟨63, 29, 63, 30⟩) ⟨63, 15, 63, 30⟩) ⟨63, 11, 63, 30⟩) ⟨63, 4, 63, 30⟩ := by kernel_rfl
theorem run03 (ns : List Int) : ∃ fn, tabLook "law" T03 = some fn ∧ fn.const = none ∧ xCall T03 (301 + 1) fn [(.B, .list (ns.map .int))] = some (.bool true) := by
  refine ⟨_, T03_law, by kernel_rfl, ?_⟩
  refine run_law (n := 300) (x := "script") (st := headS f03.body) (rest := f03.body.tail) (by kernel_rfl) (by kernel_rfl) (by kernel_rfl) (by kernel_rfl) (by rw [st03]; exact stmt_sum (n := 292) (by kernel_rfl) (by kernel_rfl) (by kernel_rfl) (by kernel_rfl) (by kernel_rfl) (by kernel_rfl) (by kernel_rfl) (by decide) (sumL_ints ns 0)) ?_
  refine saysTrue_eq ?_
  have h1 := Int.emod_nonneg (0 + ns.sum) (show (8 : Int) ≠ 0 by decide)
  have h2 := Int.emod_lt_of_pos (0 + ns.sum) (show (0 : Int) < 8 by decide)
  generalize (0 + ns.sum) % 8 = r at *
  have h3 : r = 0 ∨ r = 1 ∨ r = 2 ∨ r = 3 ∨ r = 4 ∨ r = 5 ∨ r = 6 ∨ r = 7 := by (first | lia | omega)
  rcases h3 with rfl | rfl | rfl | rfl | rfl | rfl | rfl | rfl
  · exact e03_1 _
  · exact e03_2 _
  · exact e03_3 _
  · exact e03_4 _
  · exact e03_5 _
  · exact e03_6 _
  · exact e03_7 _
  · exact e03_8 _
theorem noc03 : tabAll (fun _ fn => fn.const = none) T03 := by
  exact tabAll_upto T03_len ⟨⟨⟨⟨⟨⟨⟨⟨trivial, by kernel_rfl⟩, by kernel_rfl⟩, by kernel_rfl⟩, by kernel_rfl⟩, by kernel_rfl⟩, by kernel_rfl⟩, by kernel_rfl⟩, by kernel_rfl⟩
end Mine

open PySem PySem.W PyProof.Rows Mine
set_option maxRecDepth 100000 in
set_option maxHeartbeats 8000000 in
theorem PySem.Challenge.cw_id0004_03_holds : PySem.Challenge.rw_id0004_03.Holds := by
  refine hd ?_
  k_fill
  intro w s₀ s₁ mg mb G Y fa o pm cd doc dV kV ho hd hcd hD hmg hg args vals as hpre hlay hrd hwl hlo
  have KX := kIn_of Y
  refine Ground.open G ?_
  intro T B D TE TW
  try (refine guard_noD D (by decide +kernel) ?_; clear D)
  wrow_args hpre hlay hrd hwl hlo
  refine enter_call ?_
  w_top on
  refine codeAny_mono ?_ (fun _ _ g => GoodW.toG g)
  refine law_claim (T := T03) KX T hmg (by assumption) hg (free03 _) (tab03 _ _ KX) (noConsts noc03) (run03 _) (by decide) (fun cls => ?_) ?_
  · kernel_rfl
  · kernel_rfl
