import PyProof.Rows.All
import Wide.All
import OpenK.AllK
import Wide.FinOn
import PyProof.AttrMissHeap
import Lean
import PySem.Challenge.RW_id0004_05
set_option linter.all false
set_option backward.match.sparseCases false
set_option bootstrap.genMatcherCode false
set_option Elab.async false
namespace Mine
theorem a_fuel {n c l k m : Nat} (h : l ≤ c) (e : c + k = m) : n + (c - l) + k + l = n + m := by
  rw [← e, Nat.add_right_comm, Nat.add_assoc n, Nat.sub_add_cancel h, Nat.add_assoc]
theorem a_fuel1 {n c l k m : Nat} (h : l ≤ c) (e : c + k + 1 = m) : n + (c - l) + k + l + 1 = n + m := by
  rw [a_fuel h rfl, ← e]; rfl
theorem a_clamp (i n : Nat) : (max 0 (min (i : Int) (n : Int))).toNat = min i n := by
  rw [Int.max_eq_right (Int.le_min.mpr ⟨Int.natCast_nonneg i, Int.natCast_nonneg n⟩)]
  rcases Nat.le_total i n with h | h
  · rw [Int.min_eq_left (Int.ofNat_le.mpr h), Nat.min_eq_left h]; rfl
  · rw [Int.min_eq_right (Int.ofNat_le.mpr h), Nat.min_eq_right h]; rfl
theorem a_mid1 {l r : Nat} (h : l ≤ r) : l ≤ (l + r) / 2 := (Nat.le_div_iff_mul_le Nat.two_pos).mpr (by rw [Nat.mul_two]; exact Nat.add_le_add_left h l)
theorem a_mid2 {l r : Nat} (h : l < r) : (l + r) / 2 < r := Nat.div_lt_of_lt_mul (by rw [Nat.two_mul]; exact Nat.add_lt_add_right h r)
theorem a_up {l r : Nat} (h : l < r) : r - ((l + r) / 2 + 1) < r - l := Nat.sub_lt_sub_left h (Nat.lt_succ_of_le (a_mid1 (Nat.le_of_lt h)))
theorem a_dn {l r : Nat} (h : l < r) : (l + r) / 2 - l < r - l := Nat.sub_lt_sub_right (a_mid1 (Nat.le_of_lt h)) (a_mid2 h)
theorem a_le {a b f : Nat} (h1 : a < b) (h2 : b ≤ f + 1) : a ≤ f := Nat.le_of_lt_succ (Nat.lt_of_lt_of_le h1 h2)
theorem a_mir {i j n : Nat} (h : i ≤ j) : 0 + n - 1 - j ≤ 0 + n - 1 - i := Nat.sub_le_sub_left h _
theorem a_mir2 {i n : Nat} (h : 1 ≤ n) : 0 + n - 1 - i < n := by
  rw [Nat.zero_add]; exact Nat.lt_of_le_of_lt (Nat.sub_le _ _) (Nat.sub_lt h Nat.one_pos)
theorem a_pos (n : Nat) : ¬ (n : Int) < 0 := Int.not_lt.mpr (Int.natCast_nonneg n)
theorem a_zero {a b y : Nat} (h : a - b = y) (hb : b ≠ 0) (ha : a ≤ y) : y = 0 :=
  Nat.eq_zero_of_not_pos fun hp => Nat.ne_of_lt (Nat.lt_of_lt_of_le (Nat.sub_lt (Nat.lt_of_lt_of_le hp (h ▸ Nat.sub_le a b)) (Nat.pos_of_ne_zero hb)) ha) h
theorem a_clip (n : Nat) (x : Int) : (max 0 (min x (n : Int))).toNat ≤ n := Int.toNat_le.mpr (Int.max_le.mpr ⟨Int.natCast_nonneg n, Int.min_le_right _ _⟩)
theorem a_rev (n k : Nat) : ((n : Int) - 1 + -1 * (k : Int)).toNat = n - 1 - k := by
  rw [Int.neg_mul, Int.one_mul, ← Int.sub_eq_add_neg, Int.sub_sub, Nat.sub_sub]; exact Int.toNat_sub n (1 + k)
theorem a_last (n : Nat) : (max 0 (min ((-1 : Int) + (n : Int)) (n : Int))).toNat = n - 1 := by
  cases n with
  | zero => rfl
  | succ k =>
    have e : (-1 : Int) + ((k + 1 : Nat) : Int) = (k : Int) := by rw [Int.natCast_add, Int.add_comm]; exact Int.add_neg_cancel_right _ _
    rw [e, Int.min_eq_left (Int.ofNat_le.mpr (Nat.le_succ k)), Int.max_eq_right (Int.natCast_nonneg k)]; rfl
theorem a_win (i j n : Nat) : min (i + j) n - min i n ≤ j := by
  rcases Nat.le_total i n with h | h
  · rw [Nat.min_eq_left h]; exact Nat.sub_le_of_le_add (Nat.le_trans (Nat.min_le_left _ _) (Nat.le_of_eq (Nat.add_comm _ _)))
  · rw [Nat.min_eq_right h]; exact Nat.le_trans (Nat.sub_le_sub_right (Nat.min_le_right _ _) n) (by rw [Nat.sub_self]; exact Nat.zero_le _)
theorem a_maxmin (n : Nat) : (if (1 : Int) < (if (n : Int) < 4 then (n : Int) else 4) then (if (n : Int) < 4 then (n : Int) else 4) else 1) = ((max 1 (min 4 n) : Nat) : Int) := by
  have e : (if (n : Int) < 4 then (n : Int) else 4) = ((min 4 n : Nat) : Int) := by
    by_cases h : n < 4
    · rw [if_pos (show (n : Int) < 4 from Int.ofNat_lt.mpr h), Nat.min_eq_right (Nat.le_of_lt h)]
    · rw [if_neg (show ¬ (n : Int) < 4 from fun q => h (Int.ofNat_lt.mp q)), Nat.min_eq_left (Nat.not_lt.mp h)]; rfl
  rw [e]
  by_cases h : 1 < min 4 n
  · rw [if_pos (show (1 : Int) < ((min 4 n : Nat) : Int) from Int.ofNat_lt.mpr h), Nat.max_eq_right (Nat.le_of_lt h)]
  · rw [if_neg (show ¬ (1 : Int) < ((min 4 n : Nat) : Int) from fun q => h (Int.ofNat_lt.mp q)), Nat.max_eq_left (Nat.not_lt.mp h)]; rfl
theorem a_sw (a b c : Nat) : a + b + 1 + c = a + c + b + 1 := by rw [Nat.add_right_comm (a + b) 1 c, Nat.add_right_comm a b c]
theorem a_tr1 {a b c d : Nat} (h1 : b ≤ c + 1) (h : a ≤ b + d) : a ≤ c + (d + 1) :=
  Nat.le_trans h (Nat.le_trans (Nat.add_le_add_right h1 d) (Nat.le_of_eq (Nat.add_right_comm c 1 d)))
theorem a_tr2 {b c d n : Nat} (h1 : b ≤ c + 1) (h : c + (d + 1) ≤ n) : b + d ≤ n :=
  Nat.le_trans (Nat.add_le_add_right h1 d) (Nat.le_trans (Nat.le_of_eq (Nat.add_right_comm c 1 d)) h)
end Mine
set_option maxRecDepth 100000
namespace Mine
open PySem
inductive PV where
  | none
  | bool (b : Bool)
  | int (i : Int)
  | str (l : List Nat)
  | tup (l : List PV)
  | list (l : List PV)
  | dict (ks vs : List PV)
  deriving Inhabited
noncomputable def immN : Nat → PV → Bool
  | 0, _ => false
  | n + 1, v => match v with
    | .tup l => l.all (immN n)
    | .list _ => false
    | .dict _ _ => false
    | _ => true
noncomputable def PV.imm (v : PV) : Bool := immN 6 v
noncomputable def PV.imms (l : List PV) : Bool := l.all PV.imm
noncomputable def isAtom : PV → Bool
  | .int _ => true
  | .str _ => true
  | _ => false
noncomputable def keyP : PV → Bool
  | .int _ => true
  | .str _ => true
  | .tup l => l.all isAtom
  | _ => false
noncomputable def both : Option Bool → Option Bool → Option Bool
  | some a, o => (match o with
    | some b => some (a && b)
    | Option.none => Option.none)
  | Option.none, _ => Option.none
noncomputable def eqsL (f : PV → PV → Option Bool) : List PV → List PV → Option Bool
  | [], m => (match m with
    | [] => some true
    | _ :: _ => some false)
  | x :: r, m => (match m with
    | [] => some false
    | y :: t => both (f x y) (eqsL f r t))
noncomputable def eqNone : PV → Option Bool
  | .none => some true
  | .str _ => some false
  | .int _ => some false
  | _ => Option.none
noncomputable def eqBool (a : Bool) : PV → Option Bool
  | .bool b => some (a == b)
  | _ => Option.none
noncomputable def eqInt (a : Int) : PV → Option Bool
  | .int b => some (a == b)
  | .none => some false
  | _ => Option.none
noncomputable def eqStr (a : List Nat) : PV → Option Bool
  | .str b => some (a == b)
  | .none => some false
  | _ => Option.none
noncomputable def eqTup (f : PV → PV → Option Bool) (a : List PV) : PV → Option Bool
  | .tup b => eqsL f a b
  | _ => Option.none
noncomputable def eqList (f : PV → PV → Option Bool) (a : List PV) : PV → Option Bool
  | .list b => if a.length == b.length then eqsL f a b else some false
  | _ => Option.none
noncomputable def eqN : Nat → PV → PV → Option Bool
  | 0, _, _ => Option.none
  | n + 1, x, y => match x with
    | .none => eqNone y
    | .bool a => eqBool a y
    | .int a => eqInt a y
    | .str a => eqStr a y
    | .tup a => eqTup (eqN n) a y
    | .list a => eqList (eqN n) a y
    | .dict _ _ => Option.none
noncomputable def PV.eq (x y : PV) : Option Bool := eqN 6 x y
noncomputable def natsLt : List Nat → List Nat → Bool
  | _, [] => false
  | [], _ :: _ => true
  | x :: r, y :: t => if x < y then true else if x == y then natsLt r t else false
noncomputable def ltStep (o l r : Option Bool) : Option Bool := match o with
  | some c => bif c then r else l
  | Option.none => Option.none
noncomputable def ltsL (e l : PV → PV → Option Bool) : List PV → List PV → Option Bool
  | [], m => (match m with
    | [] => some false
    | _ :: _ => some true)
  | x :: r, m => (match m with
    | [] => some false
    | y :: t => ltStep (e x y) (l x y) (ltsL e l r t))
noncomputable def ltInt (a : Int) : PV → Option Bool
  | .int b => some (decide (a < b))
  | _ => Option.none
noncomputable def ltStr (a : List Nat) : PV → Option Bool
  | .str b => some (natsLt a b)
  | _ => Option.none
noncomputable def ltTup (f : List PV → List PV → Option Bool) (a : List PV) : PV → Option Bool
  | .tup b => f a b
  | _ => Option.none
noncomputable def ltN : Nat → PV → PV → Option Bool
  | 0, _, _ => Option.none
  | n + 1, x, y => match x with
    | .int a => ltInt a y
    | .str a => ltStr a y
    | _ => Option.none
noncomputable def PV.lt (x y : PV) : Option Bool := ltN 6 x y
noncomputable def isInL (x : PV) : List PV → Option Bool
  | [] => some false
  | y :: r => match PV.eq y x, isInL x r with
    | some a, some b => some (a || b)
    | _, _ => Option.none
noncomputable def getD2 (k : PV) : List PV → List PV → Option (Option PV)
  | [], _ => some Option.none
  | y :: r, vs => match PV.eq y k with
    | some true => vs.head?.map some
    | some false => getD2 k r vs.tail
    | Option.none => Option.none
noncomputable def putD2 (k v : PV) : List PV → List PV → Option (List PV × List PV)
  | [], _ => some ([k], [v])
  | y :: r, vs => match PV.eq y k with
    | some true => some (y :: r, v :: vs.tail)
    | some false => (putD2 k v r vs.tail).map fun p => (y :: p.1, vs.head?.toList ++ p.2)
    | Option.none => Option.none
inductive Mode where
  | P | B | O | M
  deriving DecidableEq, Inhabited
noncomputable def ownM : Mode → Bool
  | .O => true
  | .M => true
  | _ => false
noncomputable abbrev Vars := List (Str × Mode × PV)
noncomputable def strEq (a b : Str) : Bool := a.cps.toList == b.cps.toList
noncomputable def look (x : Str) : Vars → Option (Mode × PV)
  | [] => Option.none
  | (y, s) :: r => match strEq y x with
    | true => some s
    | false => look x r
noncomputable def setV (x : Str) (s : Mode × PV) : Vars → Vars
  | [] => [(x, s)]
  | (y, t) :: r => match strEq y x with
    | true => (y, s) :: r
    | false => (y, t) :: setV x s r
noncomputable def kindIn (x : Str) : List (Str × NameKind) → Option NameKind
  | [] => Option.none
  | (y, k) :: r => match strEq y x with
    | true => some k
    | false => kindIn x r
noncomputable def borrow : Vars → Vars
  | [] => []
  | (x, _, v) :: r => (x, .B, v) :: borrow r
noncomputable def within (names : List (Str × NameKind)) : Vars → Vars
  | [] => []
  | (x, m, v) :: r => match kindIn x names with
    | some .free => (x, if ownM m then .B else m, v) :: within names r
    | _ => within names r
noncomputable def smallI (a : Int) : Bool := decide (-(2 ^ 62) < a) && decide (a < 2 ^ 62)
noncomputable def szOk (n : Nat) : Bool := decide (n ≤ 1000000)
noncomputable def intP : PV → Option Int
  | .int i => some i
  | _ => Option.none
noncomputable def strP : PV → Option (List Nat)
  | .str l => some l
  | _ => Option.none
noncomputable def tupL : PV → Option (List PV)
  | .tup l => some l
  | _ => Option.none
noncomputable def listL : PV → Option (List PV)
  | .list l => some l
  | _ => Option.none
noncomputable def isNoneP : PV → Bool
  | .none => true
  | _ => false
noncomputable def intPs (a b : PV) (f : Int → Int → Option PV) : Option PV := (intP a).bind fun i => (intP b).bind fun j => f i j
noncomputable def addP (a b : PV) : Option PV := match a with
  | .int i => (intP b).bind fun j => some (.int (i + j))
  | .str l => (strP b).bind fun m => if szOk (l.length + m.length) then some (.str (l ++ m)) else Option.none
  | .list l => (listL b).bind fun m => if szOk (l.length + m.length) then some (.list (l ++ m)) else Option.none
  | _ => Option.none
noncomputable def mulP (a b : PV) : Option PV := match a with
  | .int i => (intP b).bind fun j => if smallI i then some (.int (i * j)) else Option.none
  | _ => Option.none
noncomputable def evalBin (op : Operator) (a b : PV) : Option PV := match op with
  | .Add => addP a b
  | .Sub => intPs a b fun i j => some (.int (i - j))
  | .Mult => mulP a b
  | .FloorDiv => intPs a b fun i j => if smallI i && decide (0 < j) && smallI j then some (.int (i / j)) else Option.none
  | .Mod => intPs a b fun i j => if decide (0 < j) then some (.int (i % j)) else Option.none
  | _ => Option.none
noncomputable def cmpI (a b : PV) (f : Int → Int → Bool) : Option Bool := (intP a).bind fun i => (intP b).bind fun j => some (f i j)
noncomputable def inP (x b : PV) : Option Bool := match b with
  | .list l => isInL x l
  | .dict ks vs => if keyP x then (getD2 x ks vs).bind fun o => some o.isSome else Option.none
  | _ => Option.none
noncomputable def notInP (x b : PV) : Option Bool := match b with
  | .list l => (isInL x l).bind fun c => some (!c)
  | _ => Option.none
noncomputable def evalCmp (op : CmpOp) (a b : PV) : Option Bool := match op with
  | .Eq => PV.eq a b
  | .NotEq => (PV.eq a b).bind fun c => some (!c)
  | .Lt => PV.lt a b
  | .LtE => Option.none
  | .Gt => cmpI a b fun i j => decide (j < i)
  | .GtE => Option.none
  | .Is => if isNoneP b then some (isNoneP a) else Option.none
  | .IsNot => if isNoneP b then some (!(isNoneP a)) else Option.none
  | .In => inP a b
  | .NotIn => notInP a b
noncomputable def nth {α : Type} (l : List α) (i : Int) : Option α := (seqIndex? i l.length).bind (l[·]?)
noncomputable def evalSub (a k : PV) : Option PV := match a with
  | .list l => (intP k).bind fun i => if smallI i then nth l i else Option.none
  | .str l => (intP k).bind fun i => if smallI i then (nth l i).bind fun c => some (.str [c]) else Option.none
  | .dict ks vs => if keyP k then (getD2 k ks vs).bind id else Option.none
  | _ => Option.none
noncomputable def clip (n : Nat) (i : Int) : Nat := (max 0 (min (if i < 0 then i + n else i) n)).toNat
noncomputable def cut {α : Type} (l : List α) (lo hi : Option Int) : List α :=
  (l.drop (lo.elim 0 (clip l.length))).take (hi.elim l.length (clip l.length) - lo.elim 0 (clip l.length))
noncomputable def bound? : Option PV → Option (Option Int)
  | Option.none => some Option.none
  | some (.int i) => if smallI i then some (some i) else Option.none
  | some _ => Option.none
noncomputable def evalCut (x : PV) (a b : Option Int) : Option PV := match x with
  | .list l => if szOk l.length then some (.list (cut l a b)) else Option.none
  | .str l => if szOk l.length then some (.str (cut l a b)) else Option.none
  | _ => Option.none
noncomputable def evalRev : PV → Option PV
  | .list l => if szOk l.length then some (.list l.reverse) else Option.none
  | .str l => if szOk l.length then some (.str l.reverse) else Option.none
  | _ => Option.none
noncomputable def okItems : PV → Bool
  | .list l => PV.imms l
  | .tup l => PV.imms l
  | .dict ks vs => PV.imms ks && PV.imms vs
  | _ => true
noncomputable def rangeUp (a b : Int) : List PV := (List.range (b - a).toNat).map fun (k : Nat) => .int (a + k)
noncomputable def rangeDown (a b : Int) : List PV := (List.range (a - b).toNat).map fun (k : Nat) => .int (a - k)
noncomputable def range1 (b : Int) : Option (List PV) := if smallI b then some (rangeUp 0 b) else Option.none
noncomputable def range2 (a b : Int) : Option (List PV) := if smallI a && smallI b then some (rangeUp a b) else Option.none
noncomputable def range3 (a b c : Int) : Option (List PV) := if smallI a && smallI b && c == -1 then some (rangeDown a b) else Option.none
noncomputable def rangeZ (a b : Int) (z : PV) : List PV → Option (List PV)
  | [] => (intP z).bind fun c => range3 a b c
  | _ :: _ => Option.none
noncomputable def rangeY (a : Int) (y : PV) : List PV → Option (List PV)
  | [] => (intP y).bind fun b => range2 a b
  | z :: q => (intP y).bind fun b => rangeZ a b z q
noncomputable def evalRange : List PV → Option (List PV)
  | [] => Option.none
  | x :: q => (intP x).bind fun a => match q with
    | [] => range1 a
    | y :: q => rangeY a y q
noncomputable def sumL : Int → List PV → Option Int
  | a, [] => some a
  | a, x :: r => (intP x).bind fun b => sumL (a + b) r
noncomputable def dictL : List PV → List PV → List PV → Option (List PV × List PV)
  | [], ks, vs => some (ks, vs)
  | x :: r, ks, vs => (tupL x).bind fun l => (match l with
    | [] => Option.none
    | k :: q => match q with
      | [] => Option.none
      | v :: q => match q with
        | [] => bif keyP k && v.imm && szOk ks.length then (putD2 k v ks vs).bind fun p => dictL r p.1 p.2 else Option.none
        | _ :: _ => Option.none)
structure Fn where
  params : List Str
  dflts : List (Str × PV)
  body : List Stmt
  scope : Scope
  muts : Bool
  const : Option PV
noncomputable abbrev Tab := List (Str × Fn)
noncomputable def tabLook (x : Str) : Tab → Option Fn
  | [] => Option.none
  | (y, f) :: r => if strEq y x then some f else tabLook x r
noncomputable def slotOf (p : Bool) (v : PV) : Mode × PV := (if p || v.imm then .P else .B, v)
noncomputable def dropD (p : Str) (ds : List (Str × PV)) : List (Str × PV) := match ds with
  | [] => []
  | d :: q => if strEq p d.1 then q else d :: q
noncomputable def bindArgsV : List Str → List (Mode × PV) → List (Str × PV) → Option Vars
  | [], as, ds => (match as with
    | [] => some (ds.map fun d => (d.1, .P, d.2))
    | _ :: _ => Option.none)
  | p :: ps, as, ds => match as with
    | a :: as => (bindArgsV ps as (dropD p ds)).map ((p, a) :: ·)
    | [] => match ds with
      | [] => Option.none
      | d :: ds => if strEq p d.1 then (bindArgsV ps [] ds).map ((p, .P, d.2) :: ·) else Option.none
noncomputable def ownK (sc : Scope) (x : Str) : Bool := match kindIn x sc.names with
  | some .local => true
  | some .cell => true
  | _ => false
mutual
noncomputable def bindT : Nat → Scope → Expr → PV → Vars → Option Vars
  | 0, _, _, _, _ => Option.none
  | n + 1, sc, t, v, vars => match t with
    | .Name x _ => bif ownK sc x then some (setV x (.P, v) vars) else Option.none
    | .Tuple es _ _ => (tupL v).bind fun l => bindTs n sc es l vars
    | _ => Option.none
noncomputable def bindTs : Nat → Scope → List Expr → List PV → Vars → Option Vars
  | 0, _, _, _, _ => Option.none
  | n + 1, sc, es, l, vars => match es with
    | [] => (match l with
      | [] => some vars
      | _ :: _ => Option.none)
    | t :: es => (match l with
      | [] => Option.none
      | v :: l => (bindT n sc t v vars).bind (bindTs n sc es l))
end
inductive Res where
  | next (vars : Vars)
  | ret (v : PV)
noncomputable def retOf : Res → PV
  | .next _ => .none
  | .ret v => v
inductive BI where
  | len | abs | min | max | sum | sorted | list | tuple | dict | range | enumerate | isinstance
  deriving DecidableEq
noncomputable def biTab : List (Str × BI) := [("len", .len), ("abs", .abs), ("min", .min), ("max", .max), ("sum", .sum), ("sorted", .sorted), ("list", .list), ("tuple", .tuple), ("dict", .dict), ("range", .range), ("enumerate", .enumerate), ("isinstance", .isinstance)]
noncomputable def biLook (x : Str) : List (Str × BI) → Option BI
  | [] => Option.none
  | e :: r => bif strEq x e.1 then some e.2 else biLook x r
noncomputable def biOf (x : Str) : Option BI := biLook x biTab
noncomputable def enumFrom (k : Nat) : List PV → List PV
  | [] => []
  | x :: r => .tup [.int k, x] :: enumFrom (k + 1) r
noncomputable def pairsOf : List PV → List PV → List PV
  | k :: ks, v :: vs => .tup [k, v] :: pairsOf ks vs
  | _, _ => []
noncomputable def lenP : PV → Option PV
  | .list l => if szOk l.length then some (.int l.length) else Option.none
  | .str l => if szOk l.length then some (.int l.length) else Option.none
  | _ => Option.none
noncomputable def isListE : Expr → Bool
  | .List _ _ => true
  | _ => false
noncomputable def isMult : Operator → Bool
  | .Mult => true
  | _ => false
noncomputable def isDisplay : Expr → Bool
  | .List _ _ => true
  | .Dict _ _ _ => true
  | .BinOp l op _ _ => isListE l && isMult op
  | _ => false
noncomputable def joinP : List PV → Option (List Nat)
  | [] => some []
  | x :: r => (strP x).bind fun a => (joinP r).bind fun b => some (a ++ b)
noncomputable def isG (sc : Scope) (x : Str) : Bool := match kindIn x sc.names with
  | some .globalImplicit => true
  | _ => false
noncomputable def setAll : List Str → List (Mode × PV) → Vars → Option Vars
  | [], ss, vars => (match ss with
    | [] => some vars
    | _ :: _ => Option.none)
  | x :: ts, ss, vars => (match ss with
    | [] => Option.none
    | s :: ss => setAll ts ss (setV x s vars))
set_option genSizeOf false in
set_option genInjectivity false in
inductive EV where
  | name (x : Str) (p : Pos)
  | call (f : Expr) (args : List Expr) (kw : List Keyword) (p : Pos)
  | attr (o : Expr) (n : Str) (p : Pos)
  | sub (v i : Expr) (p : Pos)
  | slice (lo hi st : Option Expr) (p : Pos)
  | tup (es : List Expr) (k : Nat) (p : Pos)
  | other
noncomputable def view (e : Expr) : EV := match e with
  | .Name x p => .name x p
  | .Call f args kw p => .call f args kw p
  | .Attribute o n p => .attr o n p
  | .Subscript v i p => .sub v i p
  | .Slice lo hi st p => .slice lo hi st p
  | .Tuple es k p => .tup es k p
  | _ => .other
noncomputable def EV.Is (v : EV) (e : Expr) : Prop := match v with
  | .name x p => e = .Name x p
  | .call f args kw p => e = .Call f args kw p
  | .attr o n p => e = .Attribute o n p
  | .sub v i p => e = .Subscript v i p
  | .slice lo hi st p => e = .Slice lo hi st p
  | .tup es k p => e = .Tuple es k p
  | .other => True
theorem view_is (e : Expr) : (view e).Is e := by cases e <;> first | exact rfl | exact trivial
noncomputable def nameV : EV → Option (Str × Pos)
  | .name x p => some (x, p)
  | _ => Option.none
noncomputable def nameOf2 (e : Expr) : Option (Str × Pos) := nameV (view e)
noncomputable def fstO : Option (Str × Pos) → Option Str
  | some q => some q.1
  | Option.none => Option.none
noncomputable def nameOf (e : Expr) : Option Str := fstO (nameOf2 e)
noncomputable def callV : EV → Option (Expr × List Expr × List Keyword × Pos)
  | .call f args kw p => some (f, args, kw, p)
  | _ => Option.none
noncomputable def callOf (e : Expr) : Option (Expr × List Expr × List Keyword × Pos) := callV (view e)
noncomputable def subV : EV → Option (Expr × Expr × Pos)
  | .sub v i p => some (v, i, p)
  | _ => Option.none
noncomputable def subOf (e : Expr) : Option (Expr × Expr × Pos) := subV (view e)
noncomputable def isLoc (k : Option NameKind) : Bool := decide (k = some .local)
noncomputable def rowNames (sc : Scope) (line : Nat) : List Expr → Option (List Str)
  | [] => some []
  | t :: r => (nameOf2 t).bind fun x => bif isLoc (kindIn x.1 sc.names) && x.2.line == line then (rowNames sc line r).bind fun q => some (x.1 :: q) else Option.none
noncomputable def noneIn (x : Str) : List Str → Bool
  | [] => true
  | y :: r => !(strEq x y) && noneIn x r
noncomputable def allApart : List Str → Bool
  | [] => true
  | x :: r => noneIn x r && allApart r
noncomputable def tsNames : List Expr → Option (List Str)
  | [] => some []
  | t :: r => (nameOf t).bind fun x => (tsNames r).bind fun q => some (x :: q)
noncomputable def isCellK (sc : Scope) (x : Str) : Bool := match kindIn x sc.names with
  | some .cell => true
  | _ => false
noncomputable def swapNames (sc : Scope) (ts es : List Expr) : Option (Bool × List Str) :=
  if !(es.length == ts.length && decide (ts.length ≤ 5)) then Option.none else
  match tsNames ts with
  | some l => if l.any (isCellK sc) then (if l.all (ownK sc) then some (false, l) else Option.none) else
    if (ts.length == 2 || ts.length == 3) && !(es.all (foldedForSure 8)) && !(es.all (constantsAlone 8)) then
      match rowNames sc ((ts.head?.map (·.pos.line)).getD 0) ts with
      | some l => if allApart l then some (true, l) else Option.none
      | Option.none => Option.none
    else Option.none
  | Option.none => Option.none
noncomputable def setBoth (sw : Bool × List Str) (ss : List (Mode × PV)) (vars : Vars) : Option Vars :=
  if sw.1 then setAll sw.2.reverse ss.reverse vars else setAll sw.2 ss vars
noncomputable def sliceV : EV → Option (Option Expr × Option Expr × Option Expr)
  | .slice lo hi st _ => some (lo, hi, st)
  | _ => Option.none
noncomputable def sliceOf (e : Expr) : Option (Option Expr × Option Expr × Option Expr) := sliceV (view e)
noncomputable def attrV : EV → Option (Expr × Str × Pos)
  | .attr o name p => some (o, name, p)
  | _ => Option.none
noncomputable def attrOf (e : Expr) : Option (Expr × Str × Pos) := attrV (view e)
noncomputable def tupV : EV → Option (List Expr)
  | .tup es _ _ => some es
  | _ => Option.none
noncomputable def tupOf (e : Expr) : Option (List Expr) := tupV (view e)
set_option genSizeOf false in
set_option genInjectivity false in
inductive IterK where
  | call (f : Str) (q : Pos) (args : List Expr) (p : Pos)
  | view (d : Str) (q : Pos) (name : Str) (apos pos : Pos)
  | other
noncomputable def iterView (o : Option (Str × Pos)) (name : Str) (apos p : Pos) : IterK := match o with
  | some d => .view d.1 d.2 name apos p
  | Option.none => .other
noncomputable def iterAttr (q : Option (Expr × Str × Pos)) (p : Pos) : IterK := match q with
  | some q => iterView (nameOf2 q.1) q.2.1 q.2.2 p
  | Option.none => .other
noncomputable def iterCall (n : Option (Str × Pos)) (f : Expr) (args : List Expr) (p : Pos) : IterK := match n with
  | some g => .call g.1 g.2 args p
  | Option.none => match args with
    | [] => iterAttr (attrOf f) p
    | _ :: _ => .other
noncomputable def iterKw (kw : List Keyword) (f : Expr) (args : List Expr) (p : Pos) : IterK := match kw with
  | [] => iterCall (nameOf2 f) f args p
  | _ :: _ => .other
noncomputable def iterC (o : Option (Expr × List Expr × List Keyword × Pos)) : IterK := match o with
  | some q => iterKw q.2.2.1 q.1 q.2.1 q.2.2.2
  | Option.none => .other
noncomputable def iterKind (e : Expr) : IterK := iterC (callOf e)
noncomputable def walkedK : IterK → Option Str
  | .view d _ _ _ _ => some d
  | _ => Option.none
noncomputable def walked (e : Expr) : Option Str := match nameOf e with
  | some x => some x
  | Option.none => walkedK (iterKind e)
noncomputable def freeze (e : Expr) (vars : Vars) : Vars := match walked e with
  | some x => match look x vars with
    | some (.O, v) => setV x (.P, v) vars
    | _ => vars
  | Option.none => vars
noncomputable def dictL2 : PV → Option (List PV × List PV)
  | .dict ks vs => some (ks, vs)
  | _ => Option.none
noncomputable def ownV (s : Mode × PV) : Option PV := match s.1 with
  | .O => some s.2
  | _ => Option.none
noncomputable def ownedName (e : Expr) (vars : Vars) : Option PV := (nameOf e).bind fun x => (look x vars).bind ownV
noncomputable def storeC (d : Str) (k v : PV) (vars : Vars) : PV → Option Vars
  | .dict ks vs => bif keyP k && v.imm && szOk ks.length then (putD2 k v ks vs).bind fun p => some (setV d (.O, .dict p.1 p.2) vars) else Option.none
  | _ => Option.none
noncomputable def evalAug (op : Operator) (a b : PV) : Option PV := match op with
  | .Add => (intP a).bind fun i => (intP b).bind fun j => some (.int (i + j))
  | _ => Option.none
noncomputable def augD (d : Str) (ks vs : List PV) (k : PV) (op : Operator) (j : Int) (vars : Vars) : Option Vars := bif keyP k && szOk ks.length then
    (getD2 k ks vs).bind fun o => o.bind fun u => (evalAug op u (.int j)).bind fun r => (putD2 k r ks vs).bind fun p => some (setV d (.O, .dict p.1 p.2) vars)
  else Option.none
noncomputable def storeP (d : Str) (k v : PV) (vars : Vars) : Option Vars := (look d vars).bind fun s => (ownV s).bind (storeC d k v vars)
noncomputable def augP (d : Str) (k : PV) (op : Operator) (v : PV) (vars : Vars) : Option Vars := (look d vars).bind fun s => (ownV s).bind fun u => (dictL2 u).bind fun p => (intP v).bind fun j => augD d p.1 p.2 k op j vars
noncomputable def appL (l : List PV) : List PV → Option (List PV)
  | [] => Option.none
  | v :: q => match q with
    | [] => bif v.imm && szOk l.length then some (l ++ [v]) else Option.none
    | _ :: _ => Option.none
noncomputable def insL (l : List PV) : List PV → Option (List PV)
  | [] => Option.none
  | k :: q => match q with
    | [] => Option.none
    | v :: q => match q with
      | [] => (intP k).bind fun i => bif v.imm && szOk l.length && decide (0 ≤ i) && decide (i ≤ l.length) then some (l.take i.toNat ++ v :: l.drop i.toNat) else Option.none
      | _ :: _ => Option.none
noncomputable def methL (m : Str) (as : List PV) (l : List PV) : Option (List PV) :=
  bif strEq m "insert" then insL l as else Option.none
noncomputable def methP (d m : Str) (as : List PV) (vars : Vars) : Option Vars := (look d vars).bind fun s => (listL s.2).bind fun l => bif ownM s.1 then (methL m as l).bind fun l' => some (setV d (s.1, .list l') vars) else Option.none
noncomputable def lentV (s : Mode × PV) : Option PV := match s.1 with
  | .M => some s.2
  | _ => Option.none
noncomputable def nextV : Res → Option Vars
  | .next v => some v
  | .ret _ => Option.none
noncomputable def backP (d : Str) (params : List Str) (r : Res) (vars : Vars) : Option Vars := (nextV r).bind fun vars3 => params.head?.bind fun p => (look p vars3).bind fun s => (lentV s).bind fun v => some (setV d (.O, v) vars)
noncomputable def bi2 (b : BI) (x y : PV) : Option PV := match b with
  | .max => intPs x y fun a b => some (.int (if a < b then b else a))
  | .min => intPs x y fun a b => some (.int (if b < a then b else a))
  | _ => Option.none
noncomputable def isIntP : PV → Bool
  | .int _ => true
  | _ => false
noncomputable def isStrP : PV → Bool
  | .str _ => true
  | _ => false
noncomputable def headP : PV → PV
  | .tup l => l.headD .none
  | _ => .none
noncomputable def tupInt (x : PV) : Bool := isIntP (headP x)
noncomputable def tupStr (x : PV) : Bool := isStrP (headP x)
noncomputable def askP (l : List PV) (i j : Nat) : Option Bool := (l[i]?).bind fun x => (l[j]?).bind fun y => PV.lt x y
noncomputable def krunO {α : Type} (lt : Nat → Nat → Option Bool) : PySem.W.KasT α → Option α
  | .ret a => some a
  | .ask i j k => (lt i j).bind fun b => krunO lt (k b)
noncomputable def kindOk (l : List PV) : Bool :=
  l.all isStrP
noncomputable def orderP (l : List PV) : Option (List Nat) := if l.length < 2 then some (List.range l.length) else
  if kindOk l then (krunO (askP l) (PySem.W.kas_sort l.length)).bind fun p => some p.toList else Option.none
noncomputable def sortP (l : List PV) : Option PV := if PV.imms l && decide (l.length < 64) then
    (orderP l).bind fun q => some (.list (q.map fun i => l.getD i .none)) else Option.none
noncomputable def sortV : PV → Option PV
  | .dict ks _ => sortP ks
  | _ => Option.none
noncomputable def biV (b : BI) (a : Bool × PV) : Option PV := match b with
  | .len => lenP a.2
  | .sum => (listL a.2).bind fun l => (sumL 0 l).bind fun i => some (.int i)
  | .sorted => sortV a.2
  | .dict => (listL a.2).bind fun l => (dictL l [] []).bind fun p => some (.dict p.1 p.2)
  | _ => Option.none
noncomputable def biIt : BI → List PV → Option PV
  | .sum, l => (sumL 0 l).bind fun i => some (.int i)
  | _, _ => Option.none
noncomputable def isiP : PV → Option PV
  | .int _ => some (.bool false)
  | _ => Option.none
noncomputable def countM (x : PV) : PV → Option PV
  | .str l => (strP x).bind fun m => (match m with
    | [] => Option.none
    | c :: q => match q with
      | [] => some (.int (l.countP (· == c)))
      | _ :: _ => Option.none)
  | _ => Option.none
noncomputable def joinE (x : PV) : List Nat → Option PV
  | [] => (listL x).bind fun l => if szOk l.length then (joinP l).bind fun x => if szOk (l.length + x.length) then some (.str x) else Option.none else Option.none
  | _ :: _ => Option.none
noncomputable def joinM (x o : PV) : Option PV := (strP o).bind (joinE x)
noncomputable def meth1 (name : Str) (o x : PV) : Option PV :=
  bif strEq name "count" then countM x o else
  bif strEq name "join" then joinM x o else
  Option.none
noncomputable def getM (x y : PV) (p : List PV × List PV) : Option PV := bif keyP x && PV.imms p.2 && y.imm then (getD2 x p.1 p.2).bind fun o => some (o.getD y) else Option.none
noncomputable def meth2 (name : Str) (o x y : PV) : Option PV :=
  bif strEq name "get" then (dictL2 o).bind (getM x y) else Option.none
noncomputable def enumP : Bool × PV → Option (List PV)
  | (_, .str l) => some (enumFrom 0 (l.map fun c => .str [c]))
  | _ => Option.none
noncomputable def viewP (tup : Bool) (name : Str) : Bool × PV → Option (List PV)
  | (p, .dict ks vs) => if p || PV.imms vs then (if strEq name "items" then (if tup then some (pairsOf ks vs) else Option.none)
    else if strEq name "values" then some vs else Option.none) else Option.none
  | _ => Option.none
noncomputable def itemsP : Bool × PV → Option (List PV)
  | (p, .list l) => if p || PV.imms l then some l else Option.none
  | (_, .str l) => some (l.map fun c => .str [c])
  | _ => Option.none
noncomputable def cutP (a : Bool × PV) (l h : Option PV) : Option (Bool × PV) := match bound? l, bound? h with
  | some l, some h => (evalCut a.2 l h).map fun r => (a.1 || okItems a.2, r)
  | _, _ => Option.none
noncomputable def revP (a : Bool × PV) : PV → Option (Bool × PV)
  | .int k => if k == -1 then (evalRev a.2).map fun r => (a.1 || okItems a.2, r) else Option.none
  | _ => Option.none
noncomputable def negP : PV → Option PV
  | .int i => if smallI i then some (.int (-i)) else Option.none
  | _ => Option.none
noncomputable def boolP : PV → Option Bool
  | .bool b => some b
  | _ => Option.none
noncomputable def pair1 (a b : PV) : Option (Bool × PV) := if keyP a && b.imm then some (true, .dict [a] [b]) else Option.none
noncomputable def listP (vs : List (Bool × PV)) : Option (Bool × PV) := if vs.all (·.1) && szOk vs.length then some (true, .list (vs.map (·.2))) else Option.none
noncomputable def tupP (vs : List (Bool × PV)) : Option (Bool × PV) := if szOk vs.length then some (vs.all (·.1), .tup (vs.map (·.2))) else Option.none
noncomputable def pubP (a : Bool × PV) : Option PV := if a.1 then some a.2 else Option.none
noncomputable def isCont : PV → Bool
  | .list _ => true
  | .dict _ _ => true
  | _ => false
noncomputable def ownP (a : Bool × PV) : Option (Mode × PV) := if a.1 && okItems a.2 && isCont a.2 then some (.O, a.2) else Option.none
noncomputable def pubM (a : Bool × PV) : Option (Mode × PV) := if a.1 then some (.P, a.2) else Option.none
noncomputable def readP (k : Option NameKind) (s : Option (Mode × PV)) : Option (Bool × PV) := match k with
  | some .local => s.map fun s => (s.1 = .P || s.2.imm, s.2)
  | some .cell => s.map fun s => (s.1 = .P || s.2.imm, s.2)
  | some .free => s.map fun s => (s.1 = .P || s.2.imm, s.2)
  | _ => Option.none
noncomputable def compOk (sc scope : Scope) : Bool := scope.kind == .function && allApart (scope.names.map (·.1)) && scope.names.all fun x =>
  match x.2 with
  | .free => !(strEq x.1 "__classdict__") && (match kindIn x.1 sc.names with
    | some .cell => true
    | some .free => true
    | _ => false)
  | _ => true
noncomputable def nameS (s : Mode × PV) : Option (Bool × PV) := if ownM s.1 then Option.none else some (s.1 = .P || s.2.imm, s.2)
noncomputable def readK (sc : Scope) (x : Str) : Bool := match kindIn x sc.names with
  | some .local => true
  | some .cell => true
  | some .free => true
  | _ => false
noncomputable def nameOk (sc : Scope) (x : Str) : Bool := readK sc x && !(strEq x "__debug__" || strEq x "__classdict__")
noncomputable def okName (sc : Scope) : Expr → Bool
  | .Name x _ => nameOk sc x
  | _ => false
noncomputable def itemsS (a : Bool × PV) : Option (List PV) := if a.1 then itemsP a else Option.none
noncomputable def isTupT : Expr → Bool
  | .Tuple _ _ _ => true
  | _ => false
noncomputable def plainBase : Expr → Bool
  | .Name _ _ => true
  | .Constant _ _ _ => true
  | _ => false
noncomputable def oddName (x : Str) : Bool := strEq x "__debug__" || strEq x "__classdict__"
noncomputable def constV : Const → Option PV
  | .none => some .none
  | .bool b => some (.bool b)
  | .int i => some (.int i)
  | .str s => some (.str s.cps.toList)
  | _ => Option.none
set_option genSizeOf false in
set_option genInjectivity false in
inductive TgtK where
  | name (x : Str)
  | tup (ts : List Expr)
  | sub (d : Str) (i : Expr)
  | other
noncomputable def tgtSub (o : Option Str) (i : Expr) : TgtK := match o with
  | some d => .sub d i
  | Option.none => .other
noncomputable def tgt3 (o : Option (Expr × Expr × Pos)) : TgtK := match o with
  | some q => tgtSub (nameOf q.1) q.2.1
  | Option.none => .other
noncomputable def tgt2 (o : Option (List Expr)) (e : Expr) : TgtK := match o with
  | some ts => .tup ts
  | Option.none => tgt3 (subOf e)
noncomputable def tgt1 (o : Option Str) (e : Expr) : TgtK := match o with
  | some x => .name x
  | Option.none => tgt2 (tupOf e) e
noncomputable def tgtOf (e : Expr) : TgtK := tgt1 (nameOf e) e
set_option genSizeOf false in
set_option genInjectivity false in
inductive CallK where
  | meth (d m : Str) (apos : Pos) (args : List Expr) (pos : Pos)
  | fn (f d : Str) (p : Pos) (args : List Expr)
  | other
noncomputable def callMeth (o : Option Str) (m : Str) (apos : Pos) (args : List Expr) (pos : Pos) : CallK := match o with
  | some d => .meth d m apos args pos
  | Option.none => .other
noncomputable def callFn2 (f : Str) (o : Option (Str × Pos)) (args : List Expr) : CallK := match o with
  | some d => .fn f d.1 d.2 args
  | Option.none => .other
noncomputable def callFn (f : Option Str) (args : List Expr) : CallK := match f with
  | Option.none => .other
  | some f => match args with
    | [] => .other
    | x :: args => callFn2 f (nameOf2 x) args
noncomputable def callKind1 (a : Option (Expr × Str × Pos)) (f : Expr) (args : List Expr) (pos : Pos) : CallK := match a with
  | some q => callMeth (nameOf q.1) q.2.1 q.2.2 args pos
  | Option.none => callFn (nameOf f) args
noncomputable def callKw (kw : List Keyword) (f : Expr) (args : List Expr) (pos : Pos) : CallK := match kw with
  | [] => callKind1 (attrOf f) f args pos
  | _ :: _ => .other
noncomputable def callC (o : Option (Expr × List Expr × List Keyword × Pos)) : CallK := match o with
  | some q => callKw q.2.2.1 q.1 q.2.1 q.2.2.2
  | Option.none => .other
noncomputable def callKind (e : Expr) : CallK := callC (callOf e)
noncomputable def isIsi (b : BI) : Bool := decide (b = .isinstance)
noncomputable def isRng (o : Option BI) : Bool := decide (o = some .range)
noncomputable def isEnu (o : Option BI) : Bool := decide (o = some .enumerate)
noncomputable def isSum (b : BI) : Bool := decide (b = .sum)
set_option genSizeOf false in
set_option genInjectivity false in
structure Rec where
  e : Scope → Vars → Expr → Option (Bool × PV)
  o : Scope → Vars → Option Expr → Option (Option PV)
  es : Scope → Vars → List Expr → Option (List (Bool × PV))
  bools : Scope → Vars → BoolOp → List Expr → Option Bool
  t : Scope → Vars → Expr → Option Bool
  ts : Scope → Vars → BoolOp → List Expr → Option Bool
  chain : Scope → Vars → PV → List CmpOp → List Expr → Option Bool
  iter : Scope → Vars → Bool → Expr → Option (List PV)
  iterS : Scope → Vars → Bool → Expr → Option (List PV)
  bi : Scope → Vars → BI → List Expr → Option PV
  comp : Scope → Vars → Expr → List Expr → List Comprehension → Expr → List PV → Option (List PV × Vars)
  elt : Scope → Vars → List Comprehension → Expr → Option (List PV × Vars)
  call : Fn → List (Mode × PV) → Option PV
  ss : Scope → Vars → List Stmt → Option Res
  slot : Scope → Vars → Expr → Option (Mode × PV)
  slots : Scope → Vars → List Expr → Option (List (Mode × PV))
  s : Scope → Vars → Stmt → Option Res
  for_ : Scope → Vars → Expr → List Stmt → List PV → Option Res
  while_ : Scope → Vars → Expr → List Stmt → Option Res
noncomputable def Rec.bot : Rec := ⟨fun _ _ _ => none, fun _ _ _ => none, fun _ _ _ => none, fun _ _ _ _ => none, fun _ _ _ => none, fun _ _ _ _ => none, fun _ _ _ _ _ => none, fun _ _ _ _ => none, fun _ _ _ _ => none, fun _ _ _ _ => none, fun _ _ _ _ _ _ _ => none, fun _ _ _ _ => none,
  fun _ _ => none, fun _ _ _ => none, fun _ _ _ => none, fun _ _ _ => none, fun _ _ _ => none, fun _ _ _ _ _ => none, fun _ _ _ _ => none⟩
section
variable (T : Tab) (r : Rec) (sc : Scope) (vars : Vars)
noncomputable def zConst (c : Const) : Option (Bool × PV) := (constV c).bind fun v => some (true, v)
noncomputable def zName (x : Str) : Option (Bool × PV) := bif oddName x then none else readP (kindIn x sc.names) (look x vars)
noncomputable def zBin (l : Expr) (op : Operator) (e : Expr) : Option (Bool × PV) := (r.e sc vars l).bind fun a => (r.e sc vars e).bind fun b => (evalBin op a.2 b.2).bind fun v => some ((a.1 || okItems a.2) && (b.1 || okItems b.2), v)
noncomputable def zNeg (x : Expr) : Option (Bool × PV) := (r.e sc vars x).bind fun a => (negP a.2).bind fun v => some (true, v)
noncomputable def zUn (op : UnaryOp) (x : Expr) : Option (Bool × PV) := match op with
  | .USub => zNeg r sc vars x
  | _ => none
noncomputable def zBoolE (op : BoolOp) (es : List Expr) : Option (Bool × PV) := (r.bools sc vars op es).bind fun b => some (true, .bool b)
noncomputable def zIf (t a b : Expr) : Option (Bool × PV) := (r.t sc vars t).bind fun c => bif c then r.e sc vars a else r.e sc vars b
noncomputable def zCmp (l : Expr) (ops : List CmpOp) (rs : List Expr) : Option (Bool × PV) := bif lastMarks ops rs then none else (r.e sc vars l).bind fun a => (r.chain sc vars a.2 ops rs).bind fun b => some (true, .bool b)
noncomputable def zDict1 (k v : Expr) : Option (Bool × PV) := (r.e sc vars k).bind fun a => (r.e sc vars v).bind fun b => pair1 a.2 b.2
noncomputable def zDictV (k : Expr) (vs : List Expr) : Option (Bool × PV) := match vs with
  | [] => none
  | v :: q => match q with
    | [] => zDict1 r sc vars k v
    | _ :: _ => none
noncomputable def zDictK (o : Option Expr) (q : List (Option Expr)) (vs : List Expr) : Option (Bool × PV) := match o with
  | none => none
  | some k => match q with
    | [] => zDictV r sc vars k vs
    | _ :: _ => none
noncomputable def zDict0 (vs : List Expr) : Option (Bool × PV) := match vs with
  | [] => some (true, .dict [] [])
  | _ :: _ => none
noncomputable def zDict (ks : List (Option Expr)) (vs : List Expr) : Option (Bool × PV) := match ks with
  | [] => zDict0 vs
  | o :: ks => zDictK r sc vars o ks vs
noncomputable def zComp1 (elt : Expr) (scope : Scope) (t it : Expr) (ifs : List Expr) (rest : List Comprehension) : Option (Bool × PV) :=
  bif compOk sc scope then (r.iter sc vars (isTupT t) it).bind fun items => (r.comp scope (within scope.names vars) t ifs rest elt items).bind fun q => bif szOk q.1.length then some (true, .list q.1) else none else none
noncomputable def isZ : Int → Bool
  | .ofNat k => (match k with
    | 0 => true
    | _ + 1 => false)
  | .negSucc _ => false
noncomputable def zComp (elt : Expr) (gens : List Comprehension) (scope : Scope) : Option (Bool × PV) := match gens with
  | [] => none
  | g :: rest => bif isZ g.is_async then zComp1 r sc vars elt scope g.target g.iter g.ifs rest else none
noncomputable def zCut (v : Expr) (lo hi : Option Expr) : Option (Bool × PV) := (r.e sc vars v).bind fun a => (r.o sc vars lo).bind fun l => (r.o sc vars hi).bind fun h => cutP a l h
noncomputable def zRev (v s : Expr) : Option (Bool × PV) := (r.e sc vars v).bind fun a => (r.e sc vars s).bind fun k => revP a k.2
noncomputable def zRev0 (v : Expr) (lo hi : Option Expr) (s : Expr) : Option (Bool × PV) := match lo with
  | some _ => none
  | none => match hi with
    | some _ => none
    | none => zRev r sc vars v s
noncomputable def zItem (v i : Expr) : Option (Bool × PV) := (r.e sc vars v).bind fun a => (r.e sc vars i).bind fun k => (evalSub a.2 k.2).bind fun q => some (a.1 || q.imm, q)
noncomputable def zSlice (v : Expr) (lo hi st : Option Expr) : Option (Bool × PV) := match st with
  | none => zCut r sc vars v lo hi
  | some s => zRev0 r sc vars v lo hi s
noncomputable def zSubK (v i : Expr) (q : Option (Option Expr × Option Expr × Option Expr)) : Option (Bool × PV) := match q with
  | some q => zSlice r sc vars v q.1 q.2.1 q.2.2
  | none => zItem r sc vars v i
noncomputable def zSub (v i : Expr) : Option (Bool × PV) := zSubK r sc vars v i (sliceOf i)
noncomputable def zMeth1 (o x : Expr) (name : Str) : Option (Bool × PV) := (r.e sc vars o).bind fun a => (r.e sc vars x).bind fun b => (meth1 name a.2 b.2).bind fun v => some (true, v)
noncomputable def zMeth2 (o x y : Expr) (name : Str) : Option (Bool × PV) := (r.e sc vars o).bind fun a => (r.e sc vars x).bind fun b => (r.e sc vars y).bind fun c => (meth2 name a.2 b.2 c.2).bind fun v => some (true, v)
noncomputable def zMeth (o : Expr) (name : Str) (apos pos : Pos) (args : List Expr) : Option (Bool × PV) := match args with
  | [] => none
  | x :: q => match q with
    | [] => bif plainBase o && apos.endLine == pos.line then zMeth1 r sc vars o x name else none
    | y :: q2 => match q2 with
      | [] => bif plainBase o && apos.endLine == pos.line then zMeth2 r sc vars o x y name else none
      | _ :: _ => none
noncomputable def zUser (f : Str) (args : List Expr) : Option (Bool × PV) := (tabLook f T).bind fun fn => (r.es sc vars args).bind fun as => bif fn.muts then none else (r.call fn (as.map fun a => slotOf a.1 a.2)).bind fun v => some (true, v)
noncomputable def zFnK (f : Str) (args : List Expr) (o : Option BI) : Option (Bool × PV) := match o with
  | some b => (r.bi sc vars b args).bind fun v => some (true, v)
  | none => zUser T r sc vars f args
noncomputable def zFn (f : Str) (args : List Expr) : Option (Bool × PV) := bif isG sc f then zFnK T r sc vars f args (biOf f) else none
noncomputable def zCallN (f : Option Str) (args : List Expr) : Option (Bool × PV) := match f with
  | some f => zFn T r sc vars f args
  | none => none
noncomputable def zCallA (q : Option (Expr × Str × Pos)) (f : Expr) (args : List Expr) (pos : Pos) : Option (Bool × PV) := match q with
  | some q => zMeth r sc vars q.1 q.2.1 q.2.2 pos args
  | none => zCallN T r sc vars (nameOf f) args
noncomputable def zCallE (f : Expr) (args : List Expr) (kw : List Keyword) (pos : Pos) : Option (Bool × PV) := match kw with
  | _ :: _ => none
  | [] => zCallA T r sc vars (attrOf f) f args pos
end
set_option genSizeOf false in
set_option genInjectivity false in
structure EC where
  run : Rec → Scope → Vars → Option (Bool × PV)
noncomputable def cE (T : Tab) (e : Expr) : EC := match e with
  | .Constant c _ _ => ⟨fun _ _ _ => zConst c⟩
  | .Name x _ => ⟨fun _ sc vars => zName sc vars x⟩
  | .BinOp l op e _ => ⟨fun r sc vars => zBin r sc vars l op e⟩
  | .UnaryOp op x _ => ⟨fun r sc vars => zUn r sc vars op x⟩
  | .BoolOp op es _ => ⟨fun r sc vars => zBoolE r sc vars op es⟩
  | .IfExp t a b _ => ⟨fun r sc vars => zIf r sc vars t a b⟩
  | .Compare l ops rs _ => ⟨fun r sc vars => zCmp r sc vars l ops rs⟩
  | .Tuple es _ _ => ⟨fun r sc vars => (r.es sc vars es).bind tupP⟩
  | .List es _ => ⟨fun r sc vars => (r.es sc vars es).bind listP⟩
  | .Dict ks vs _ => ⟨fun r sc vars => zDict r sc vars ks vs⟩
  | .ListComp elt gens scope _ => ⟨fun r sc vars => zComp r sc vars elt gens scope⟩
  | .Subscript v i _ => ⟨fun r sc vars => zSub r sc vars v i⟩
  | .Call f args kw pos => ⟨fun r sc vars => zCallE T r sc vars f args kw pos⟩
  | _ => ⟨fun _ _ _ => none⟩
section
variable (T : Tab) (r : Rec) (sc : Scope) (vars : Vars)
noncomputable def zE (e : Expr) : Option (Bool × PV) := (cE T e).run r sc vars
noncomputable def zO (o : Option Expr) : Option (Option PV) := match o with
  | none => some none
  | some e => (r.e sc vars e).bind fun a => some (some a.2)
noncomputable def zEs (es : List Expr) : Option (List (Bool × PV)) := match es with
  | [] => some []
  | e :: q => (r.e sc vars e).bind fun v => (r.es sc vars q).bind fun vs => some (v :: vs)
noncomputable def zBools (op : BoolOp) (es : List Expr) : Option Bool := match es with
  | [] => none
  | e :: q => match q with
    | [] => (r.e sc vars e).bind fun a => boolP a.2
    | _ :: _ => (r.e sc vars e).bind fun a => (boolP a.2).bind fun b => bif b == (op == .And) then r.bools sc vars op q else some b
noncomputable def zNot (op : UnaryOp) (x : Expr) : Option Bool := match op with
  | .Not => (r.t sc vars x).bind fun c => some (!c)
  | _ => none
noncomputable def zTC (f : Expr) (as : List Expr) (ks : List Keyword) (p : Pos) : Option Bool := (r.e sc vars (.Call f as ks p)).bind fun a => boolP a.2
noncomputable def zCmpT (l : Expr) (ops : List CmpOp) (rs : List Expr) : Option Bool := bif lastMarks ops rs then none else (r.e sc vars l).bind fun a => r.chain sc vars a.2 ops rs
end
set_option genSizeOf false in
set_option genInjectivity false in
structure TC where
  run : Rec → Scope → Vars → Option Bool
noncomputable def cT (e : Expr) : TC := match e with
  | .UnaryOp op x _ => ⟨fun r sc vars => zNot r sc vars op x⟩
  | .BoolOp op es _ => ⟨fun r sc vars => r.ts sc vars op es⟩
  | .Compare l ops rs _ => ⟨fun r sc vars => zCmpT r sc vars l ops rs⟩
  | .Call f as ks p => ⟨fun r sc vars => zTC r sc vars f as ks p⟩
  | _ => ⟨fun _ _ _ => none⟩
section
variable (T : Tab) (r : Rec) (sc : Scope) (vars : Vars)
noncomputable def zT (e : Expr) : Option Bool := (cT e).run r sc vars
noncomputable def zTs (op : BoolOp) (es : List Expr) : Option Bool := match es with
  | [] => some (op == .And)
  | e :: q => (r.t sc vars e).bind fun b => bif b == (op == .And) then r.ts sc vars op q else some b
noncomputable def zChain (a : PV) (ops : List CmpOp) (rs : List Expr) : Option Bool := match ops with
  | [] => none
  | op :: ops => match rs with
    | [] => none
    | x :: rs => match ops with
      | [] => (match rs with
        | [] => (r.e sc vars x).bind fun b => evalCmp op a b.2
        | _ :: _ => none)
      | _ :: _ => none
noncomputable def zEnum (tup : Bool) (as : List (Bool × PV)) : Option (List PV) := match as with
  | [] => none
  | a :: q => match q with
    | [] => bif tup then enumP a else none
    | _ :: _ => none
noncomputable def zEnumS (tup : Bool) (as : List (Bool × PV)) : Option (List PV) := match as with
  | [] => none
  | a :: q => match q with
    | [] => bif tup && a.1 then enumP a else none
    | _ :: _ => none
noncomputable def zIterB (tup : Bool) (b : Option BI) (args : List Expr) (e : Expr) : Option (List PV) :=
  bif isRng b then (r.es sc vars args).bind fun as => evalRange (as.map (·.2)) else
  bif isEnu b then (r.es sc vars args).bind (zEnum tup) else
  (r.e sc vars e).bind itemsP
noncomputable def zIterK (tup : Bool) (e : Expr) (k : IterK) : Option (List PV) := match k with
  | .call f _ args _ => bif isG sc f then zIterB r sc vars tup (biOf f) args e else none
  | .view d q name apos pos => bif apos.endLine == pos.line then (r.e sc vars (.Name d q)).bind (viewP tup name) else none
  | .other => (r.e sc vars e).bind itemsP
noncomputable def zIter (tup : Bool) (e : Expr) : Option (List PV) := zIterK r sc vars tup e (iterKind e)
noncomputable def zIterSB (tup : Bool) (b : Option BI) (args : List Expr) (e : Expr) : Option (List PV) :=
  bif isRng b then (r.es sc vars args).bind fun as => evalRange (as.map (·.2)) else
  bif isEnu b then (r.es sc vars args).bind (zEnumS tup) else
  (r.e sc vars e).bind itemsS
noncomputable def zIterSK (tup : Bool) (e : Expr) (k : IterK) : Option (List PV) := match k with
  | .call f _ args _ => bif isG sc f then zIterSB r sc vars tup (biOf f) args e else none
  | .view d _ name apos pos => bif apos.endLine == pos.line && readK sc d && !(oddName d) then (look d vars).bind fun s => (nameS s).bind (viewP tup name) else none
  | .other => (r.e sc vars e).bind itemsS
noncomputable def zIterSN (tup : Bool) (e : Expr) (o : Option Str) : Option (List PV) := match o with
  | some x => bif readK sc x && !(oddName x) then (look x vars).bind fun s => (nameS s).bind itemsP else none
  | none => zIterSK r sc vars tup e (iterKind e)
noncomputable def zIterS (tup : Bool) (e : Expr) : Option (List PV) := zIterSN r sc vars tup e (nameOf e)
noncomputable def zBIv (b : BI) (d : Str) (q : Pos) (name : Str) : Option PV := (r.e sc vars (.Name d q)).bind fun a => (viewP false name a).bind fun l => biIt b l
noncomputable def zBIo (b : BI) (x : Expr) : Option PV := (r.e sc vars x).bind fun a => biV b a
noncomputable def zBI1 (b : BI) (x : Expr) (k : IterK) : Option PV := match k with
  | .call _ _ _ _ => zBIo r sc vars b x
  | .view d q name apos pos => bif isSum b && apos.endLine == pos.line then zBIv r sc vars b d q name else zBIo r sc vars b x
  | .other => zBIo r sc vars b x
noncomputable def zBI2 (b : BI) (x y : Expr) : Option PV := (r.e sc vars x).bind fun a => (r.e sc vars y).bind fun c => bi2 b a.2 c.2
noncomputable def zIsi (c : Str) (x : Expr) : Option PV := (r.e sc vars x).bind fun a => bif strEq c "tuple" && isG sc c then isiP a.2 else none
noncomputable def zIsiN (x : Expr) (o : Option Str) : Option PV := match o with
  | some c => zIsi r sc vars c x
  | none => none
noncomputable def zBI (b : BI) (args : List Expr) : Option PV := match args with
  | [] => none
  | x :: q => match q with
    | [] => zBI1 r sc vars b x (iterKind x)
    | y :: q2 => match q2 with
      | _ :: _ => none
      | [] => bif isIsi b then zIsiN r sc vars x (nameOf y) else zBI2 r sc vars b x y
noncomputable def zCompStep (t : Expr) (ifs : List Expr) (rest : List Comprehension) (elt : Expr) (x : PV) (n : Nat) : Option (List PV × Vars) := (bindT n sc t x vars).bind fun vars' => (r.ts sc vars' .And ifs).bind fun c => bif c then r.elt sc vars' rest elt else some ([], vars')
noncomputable def zCompL (n : Nat) (t : Expr) (ifs : List Expr) (rest : List Comprehension) (elt : Expr) (items : List PV) : Option (List PV × Vars) := match items with
  | [] => some ([], vars)
  | x :: xs => (zCompStep r sc vars t ifs rest elt x n).bind fun here => (r.comp sc here.2 t ifs rest elt xs).bind fun more => some (here.1 ++ more.1, more.2)
noncomputable def zElt0 (elt : Expr) : Option (List PV × Vars) := (r.e sc vars elt).bind fun v => (pubP v).bind fun u => some ([u], vars)
noncomputable def zElt1 (t it : Expr) (ifs : List Expr) (elt : Expr) : Option (List PV × Vars) := (r.iter sc vars (isTupT t) it).bind fun its => r.comp sc vars t ifs [] elt its
noncomputable def zElt (rest : List Comprehension) (elt : Expr) : Option (List PV × Vars) := match rest with
  | [] => zElt0 r sc vars elt
  | g :: q => match q with
    | _ :: _ => none
    | [] => bif isZ g.is_async then zElt1 r sc vars g.target g.iter g.ifs elt else none
noncomputable def zRun (fn : Fn) (as : List (Mode × PV)) : Option PV := (bindArgsV fn.params as fn.dflts).bind fun vars => (r.ss fn.scope vars fn.body).bind fun q => some (retOf q)
noncomputable def zCallK (n : Nat) (c : Option PV) (fn : Fn) (as : List (Mode × PV)) : Option PV := match c with
  | some v => (match as with
    | [] => bif Nat.ble 60 n then some v else none
    | _ :: _ => none)
  | none => zRun r fn as
noncomputable def zCall (n : Nat) (fn : Fn) (as : List (Mode × PV)) : Option PV := zCallK r n fn.const fn as
noncomputable def zThen (q : List Stmt) (res : Res) : Option Res := match res with
  | .next vars' => r.ss sc vars' q
  | .ret v => some (.ret v)
noncomputable def zSs (body : List Stmt) : Option Res := match body with
  | [] => some (.next vars)
  | st :: q => (r.s sc vars st).bind (zThen r sc q)
noncomputable def zSlot (e : Expr) : Option (Mode × PV) := bif isDisplay e then (r.e sc (borrow vars) e).bind ownP else (r.e sc vars e).bind pubM
noncomputable def zSlots (es : List Expr) : Option (List (Mode × PV)) := match es with
  | [] => some []
  | e :: q => (r.slot sc vars e).bind fun s => (r.slots sc vars q).bind fun ss => some (s :: ss)
noncomputable def zAsgTup (ts es : List Expr) : Option Res := (swapNames sc ts es).bind fun sw => (r.slots sc vars es).bind fun ss => (setBoth sw ss vars).bind fun v => some (.next v)
noncomputable def zAsgTupO (ts : List Expr) (o : Option (List Expr)) : Option Res := match o with
  | some es => zAsgTup r sc vars ts es
  | none => none
noncomputable def zAsgSub (d : Str) (i e : Expr) : Option Res := bif nameOk sc d then (r.e sc vars e).bind fun a => (r.e sc vars i).bind fun k => (storeP d k.2 a.2 vars).bind fun v => some (.next v) else none
noncomputable def zAsgN (x : Str) (e : Expr) : Option Res := bif ownK sc x then (r.slot sc vars e).bind fun s => some (.next (setV x s vars)) else none
noncomputable def zAsg1 (k : TgtK) (e : Expr) : Option Res := match k with
  | .name x => zAsgN r sc vars x e
  | .tup ts => zAsgTupO r sc vars ts (tupOf e)
  | .sub d i => zAsgSub r sc vars d i e
  | .other => none
noncomputable def zAsg (ts : List Expr) (e : Expr) : Option Res := match ts with
  | [] => none
  | t :: q => match q with
    | [] => zAsg1 r sc vars (tgtOf t) e
    | _ :: _ => none
noncomputable def zAugN (x : Str) (t : Expr) (op : Operator) (e : Expr) : Option Res := bif ownK sc x then (r.e sc vars t).bind fun o => (r.e sc vars e).bind fun a => (evalAug op o.2 a.2).bind fun v => some (.next (setV x (.P, v) vars)) else none
noncomputable def zAugS (d : Str) (i : Expr) (op : Operator) (e : Expr) : Option Res := bif nameOk sc d then (r.e sc vars i).bind fun k => (r.e sc vars e).bind fun a => (augP d k.2 op a.2 vars).bind fun v => some (.next v) else none
noncomputable def zAugI (d : Str) (i : Expr) (op : Operator) (e : Expr) (o : Option Str) : Option Res := match o with
  | some _ => zAugS r sc vars d i op e
  | none => none
noncomputable def zAug (k : TgtK) (t : Expr) (op : Operator) (e : Expr) : Option Res := match k with
  | .name x => zAugN r sc vars x t op e
  | .sub d i => zAugI r sc vars d i op e (nameOf i)
  | _ => none
noncomputable def zForS (t it : Expr) (body : List Stmt) : Option Res := (r.iterS sc (freeze it vars) (isTupT t) it).bind fun items => r.for_ sc (freeze it vars) t body items
noncomputable def zIfS (t : Expr) (a b : List Stmt) : Option Res := (r.t sc vars t).bind fun c => bif c then r.ss sc vars a else r.ss sc vars b
noncomputable def zRetK (e : Expr) (o : Option PV) : Option Res := match o with
  | some v => bif okName sc e then some (.ret v) else none
  | none => (r.e sc vars e).bind fun a => (pubP a).bind fun v => some (.ret v)
noncomputable def zRet (e : Expr) : Option Res := zRetK r sc vars e (ownedName e vars)
noncomputable def zMut (fn : Fn) (d : Str) (as : List (Bool × PV)) (v : PV) : Option Res := bif fn.muts && as.all (·.1) && isCont v then (bindArgsV fn.params ((.M, v) :: as.map fun a => (.P, a.2)) fn.dflts).bind fun vars2 => (r.ss fn.scope vars2 fn.body).bind fun q => (backP d fn.params q vars).bind fun v => some (.next v) else none
noncomputable def zExprF (f d : Str) (p : Pos) (args : List Expr) : Option Res := bif isG sc f && nameOk sc d then (tabLook f T).bind fun fn => (r.es sc vars args).bind fun as => (ownedName (.Name d p) vars).bind fun v => zMut r vars fn d as v else none
noncomputable def zExprM (d m : Str) (apos : Pos) (args : List Expr) (pos : Pos) : Option Res := bif apos.endLine == pos.line && nameOk sc d && decide (args.length < 30) then (r.es sc vars args).bind fun as => (methP d m (as.map (·.2)) vars).bind fun v => some (.next v) else none
noncomputable def zExpr (k : CallK) : Option Res := match k with
  | .meth d m apos args pos => zExprM r sc vars d m apos args pos
  | .fn f d p args => zExprF T r sc vars f d p args
  | .other => none
end
set_option genSizeOf false in
set_option genInjectivity false in
structure SC where
  run : Rec → Scope → Vars → Option Res
noncomputable def cFor (t it : Expr) (body els : List Stmt) : SC := match els with
  | [] => ⟨fun r sc vars => zForS r sc vars t it body⟩
  | _ :: _ => ⟨fun _ _ _ => none⟩
noncomputable def cWhile (test : Expr) (body els : List Stmt) : SC := match els with
  | [] => ⟨fun r sc vars => r.while_ sc vars test body⟩
  | _ :: _ => ⟨fun _ _ _ => none⟩
noncomputable def cRet (o : Option Expr) : SC := match o with
  | some e => ⟨fun r sc vars => zRet r sc vars e⟩
  | none => ⟨fun _ _ _ => none⟩
noncomputable def cS (T : Tab) (st : Stmt) : SC := match st with
  | .Assign ts e _ => ⟨fun r sc vars => zAsg r sc vars ts e⟩
  | .AugAssign t op e _ => ⟨fun r sc vars => zAug r sc vars (tgtOf t) t op e⟩
  | .For t it body els _ => cFor t it body els
  | .While test body els _ => cWhile test body els
  | .If t a b _ => ⟨fun r sc vars => zIfS r sc vars t a b⟩
  | .Return o _ => cRet o
  | .Expr e _ => ⟨fun r sc vars => zExpr T r sc vars (callKind e)⟩
  | _ => ⟨fun _ _ _ => none⟩
section
variable (T : Tab) (r : Rec) (sc : Scope) (vars : Vars)
noncomputable def zS (st : Stmt) : Option Res := (cS T st).run r sc vars
noncomputable def zNextF (t : Expr) (body : List Stmt) (xs : List PV) (q : Res) : Option Res := match q with
  | .next vars' => r.for_ sc vars' t body xs
  | .ret v => some (.ret v)
noncomputable def zForL (n : Nat) (t : Expr) (body : List Stmt) (items : List PV) : Option Res := match items with
  | [] => some (.next vars)
  | x :: xs => (bindT n sc t x vars).bind fun vars' => (r.ss sc vars' body).bind (zNextF r sc t body xs)
noncomputable def zNextW (test : Expr) (body : List Stmt) (q : Res) : Option Res := match q with
  | .next vars' => r.while_ sc vars' test body
  | .ret v => some (.ret v)
noncomputable def zWhileL (test : Expr) (body : List Stmt) : Option Res := (r.t sc vars test).bind fun c => bif c then (r.ss sc vars body).bind (zNextW r sc test body) else some (.next vars)
end
noncomputable def zStep (T : Tab) (n : Nat) (r : Rec) : Rec := ⟨zE T r, zO r, zEs r, zBools r, zT r, zTs r, zChain r, zIter r, zIterS r, zBI r, fun sc vars => zCompL r sc vars n, zElt r, zCall r n, zSs r, zSlot r, zSlots r, zS T r, fun sc vars => zForL r sc vars n, zWhileL r⟩
noncomputable def zRec (T : Tab) : Nat → Rec
  | 0 => Rec.bot
  | n + 1 => zStep T n (zRec T n)
section
variable (T : Tab) (n : Nat)
noncomputable abbrev xE := (zRec T n).e
noncomputable abbrev xO := (zRec T n).o
noncomputable abbrev xEs := (zRec T n).es
noncomputable abbrev xBools := (zRec T n).bools
noncomputable abbrev xT := (zRec T n).t
noncomputable abbrev xTs := (zRec T n).ts
noncomputable abbrev xChain := (zRec T n).chain
noncomputable abbrev xIter := (zRec T n).iter
noncomputable abbrev xIterS := (zRec T n).iterS
noncomputable abbrev xBI := (zRec T n).bi
noncomputable abbrev xComp := (zRec T n).comp
noncomputable abbrev xElt := (zRec T n).elt
noncomputable abbrev xCall := (zRec T n).call
noncomputable abbrev xSs := (zRec T n).ss
noncomputable abbrev xSlot := (zRec T n).slot
noncomputable abbrev xSlots := (zRec T n).slots
noncomputable abbrev xS := (zRec T n).s
noncomputable abbrev xFor := (zRec T n).for_
noncomputable abbrev xWhile := (zRec T n).while_
end
theorem bnd {α β : Type} {o : Option α} {f : α → Option β} {r : β} (h : o.bind f = some r) : ∃ a, o = some a ∧ f a = some r := match o, h with
  | some a, h => ⟨a, rfl, h⟩
theorem noS {α : Type} {r : α} {P : Prop} (h : (Option.none : Option α) = some r) : P := nomatch h
theorem onlyIf {α : Type} {c : Bool} {a : Option α} {r : α} (h : (bif c then a else Option.none) = some r) : c = true ∧ a = some r := match c, h with
  | true, h => ⟨rfl, h⟩
theorem unlessIf {α : Type} {c : Bool} {a : Option α} {r : α} (h : (bif c then Option.none else a) = some r) : c = false ∧ a = some r := match c, h with
  | false, h => ⟨rfl, h⟩
theorem two {a b : Bool} (h : (a && b) = true) : a = true ∧ b = true := match a, b, h with
  | true, true, _ => ⟨rfl, rfl⟩
theorem notB {a : Bool} (h : (!a) = true) : a = false := match a, h with
  | false, _ => rfl
theorem ifS {α : Type} {c : Bool} {a : α} {r : α} (h : (if c = true then some a else Option.none) = some r) : c = true ∧ a = r := match c, h with
  | true, h => ⟨rfl, Option.some.inj h⟩
theorem intP_eq {v : PV} {i : Int} (h : intP v = some i) : v = .int i := by cases v <;> first | (cases h; rfl) | exact noS h
theorem strP_eq {v : PV} {i : List Nat} (h : strP v = some i) : v = .str i := by cases v <;> first | (cases h; rfl) | exact noS h
theorem tupL_eq {v : PV} {i : List PV} (h : tupL v = some i) : v = .tup i := by cases v <;> first | (cases h; rfl) | exact noS h
theorem listL_eq {v : PV} {i : List PV} (h : listL v = some i) : v = .list i := by cases v <;> first | (cases h; rfl) | exact noS h
theorem dictL2_eq {v : PV} {i : List PV × List PV} (h : dictL2 v = some i) : v = .dict i.1 i.2 := by cases v <;> first | (cases h; rfl) | exact noS h
theorem ownV_eq {s : Mode × PV} {v : PV} (h : ownV s = some v) : s = (.O, v) := by obtain ⟨m, u⟩ := s; cases m <;> first | (cases h; rfl) | exact noS h
theorem lentV_eq {s : Mode × PV} {v : PV} (h : lentV s = some v) : s = (.M, v) := by obtain ⟨m, u⟩ := s; cases m <;> first | (cases h; rfl) | exact noS h
theorem ifO {α : Type} {c : Bool} {a : Option α} {r : α} (h : (if c = true then a else Option.none) = some r) : c = true ∧ a = some r := match c, h with
  | true, h => ⟨rfl, h⟩
theorem isLoc_eq {k : Option NameKind} (h : isLoc k = true) : k = some .local := of_decide_eq_true h
theorem onlyT {α : Type} {c : Bool} {a b : Option α} {r : Option α} (hc : c = true) (h : (bif c then a else b) = r) : a = r := by rw [hc] at h; exact h
theorem onlyF {α : Type} {c : Bool} {a b : Option α} {r : Option α} (hc : c = false) (h : (bif c then a else b) = r) : b = r := by rw [hc] at h; exact h
theorem isZ_eq {k : Int} (h : isZ k = true) : k = 0 := match k, h with
  | .ofNat 0, _ => rfl
theorem nameOf2_eq {e : Expr} {x : Str × Pos} (h : nameOf2 e = some x) : e = .Name x.1 x.2 := by
  have q := view_is e
  cases hv : view e with
  | name y p => rw [hv] at q; rw [← Option.some.inj ((congrArg nameV hv).symm.trans h)]; exact q
  | _ => exact noS ((congrArg nameV hv).symm.trans h)
theorem nameOf_eq {e : Expr} {x : Str} (h : nameOf e = some x) : ∃ p, e = .Name x p := by
  cases q : nameOf2 e with
  | none => exact noS ((congrArg fstO q).symm.trans h)
  | some a => cases (congrArg fstO q).symm.trans h; exact ⟨_, nameOf2_eq q⟩
theorem callOf_eq {e : Expr} {x : Expr × List Expr × List Keyword × Pos} (h : callOf e = some x) : e = .Call x.1 x.2.1 x.2.2.1 x.2.2.2 := by
  have q := view_is e
  cases hv : view e with
  | call f a k p => rw [hv] at q; rw [← Option.some.inj ((congrArg callV hv).symm.trans h)]; exact q
  | _ => exact noS ((congrArg callV hv).symm.trans h)
theorem subOf_eq {e : Expr} {x : Expr × Expr × Pos} (h : subOf e = some x) : e = .Subscript x.1 x.2.1 x.2.2 := by
  have q := view_is e
  cases hv : view e with
  | sub v i p => rw [hv] at q; rw [← Option.some.inj ((congrArg subV hv).symm.trans h)]; exact q
  | _ => exact noS ((congrArg subV hv).symm.trans h)
theorem attrOf_eq {e : Expr} {x : Expr × Str × Pos} (h : attrOf e = some x) : e = .Attribute x.1 x.2.1 x.2.2 := by
  have q := view_is e
  cases hv : view e with
  | attr o n p => rw [hv] at q; rw [← Option.some.inj ((congrArg attrV hv).symm.trans h)]; exact q
  | _ => exact noS ((congrArg attrV hv).symm.trans h)
theorem sliceOf_eq {e : Expr} {x : Option Expr × Option Expr × Option Expr} (h : sliceOf e = some x) : ∃ p, e = .Slice x.1 x.2.1 x.2.2 p := by
  have q := view_is e
  cases hv : view e with
  | slice a b c p => rw [hv] at q; rw [← Option.some.inj ((congrArg sliceV hv).symm.trans h)]; exact ⟨p, q⟩
  | _ => exact noS ((congrArg sliceV hv).symm.trans h)
theorem tupOf_eq {e : Expr} {x : List Expr} (h : tupOf e = some x) : ∃ k p, e = .Tuple x k p := by
  have q := view_is e
  cases hv : view e with
  | tup es k p => rw [hv] at q; rw [← Option.some.inj ((congrArg tupV hv).symm.trans h)]; exact ⟨k, p, q⟩
  | _ => exact noS ((congrArg tupV hv).symm.trans h)
noncomputable def IterIs (e : Expr) : Prop := (∃ f q args p, e = .Call (.Name f q) args [] p ∧ iterKind e = .call f q args p) ∨ (∃ d q name apos p, e = .Call (.Attribute (.Name d q) name apos) [] [] p ∧ iterKind e = .view d q name apos p) ∨ iterKind e = .other
theorem IterIs.call (f : Str) (q : Pos) (args : List Expr) (p : Pos) : IterIs (.Call (.Name f q) args [] p) := .inl ⟨f, q, args, p, rfl, rfl⟩
theorem IterIs.view (d : Str) (q : Pos) (name : Str) (apos p : Pos) : IterIs (.Call (.Attribute (.Name d q) name apos) [] [] p) := .inr (.inl ⟨d, q, name, apos, p, rfl, rfl⟩)
theorem IterIs.no {e : Expr} (h : iterKind e = .other) : IterIs e := .inr (.inr h)
theorem iterCall_is {f : Expr} {args : List Expr} {p : Pos} : IterIs (.Call f args [] p) := by
  cases hf : nameOf2 f with
  | some g => rw [nameOf2_eq hf]; exact .call _ _ _ _
  | none =>
    have e0 : iterKind (.Call f args [] p) = iterCall none f args p := congrArg (fun o => iterCall o f args p) hf
    cases args with
    | cons => exact .no e0
    | nil =>
      cases ha : attrOf f with
      | none => exact .no (e0.trans (congrArg (fun o => iterAttr o p) ha))
      | some q =>
        cases hd : nameOf2 q.1 with
        | none => exact .no (e0.trans ((congrArg (fun o => iterAttr o p) ha).trans (congrArg (fun o => iterView o q.2.1 q.2.2 p) hd)))
        | some d => rw [attrOf_eq ha, nameOf2_eq hd]; exact .view _ _ _ _ _
theorem iterKind_is {e : Expr} : IterIs e := by
  cases hc : callOf e with
  | none => exact .no (congrArg iterC hc)
  | some c =>
    rw [callOf_eq hc]
    cases c.2.2.1 with
    | cons => exact .no rfl
    | nil => exact iterCall_is
noncomputable def TgtIs (e : Expr) : Prop := (∃ x p, e = .Name x p) ∨ (∃ ts k p, e = .Tuple ts k p) ∨ (∃ d dp i p, e = .Subscript (.Name d dp) i p) ∨ tgtOf e = .other
theorem tgtOf_is {e : Expr} : TgtIs e := by
  cases hn : nameOf e with
  | some x => exact .inl ⟨x, nameOf_eq hn⟩
  | none =>
    have e1 : tgtOf e = tgt2 (tupOf e) e := congrArg (tgt1 · e) hn
    cases ht : tupOf e with
    | some ts => exact .inr (.inl ⟨ts, tupOf_eq ht⟩)
    | none =>
      have e2 := e1.trans (congrArg (tgt2 · e) ht)
      cases hs : subOf e with
      | none => exact .inr (.inr (.inr (e2.trans (congrArg tgt3 hs))))
      | some q =>
        cases hv : nameOf q.1 with
        | none => exact .inr (.inr (.inr (e2.trans ((congrArg tgt3 hs).trans (congrArg (tgtSub · q.2.1) hv)))))
        | some d => obtain ⟨p, e⟩ := nameOf_eq hv; exact .inr (.inr (.inl ⟨d, p, q.2.1, q.2.2, e ▸ subOf_eq hs⟩))
noncomputable def CallIs (e : Expr) : Prop := (∃ d dp m apos args pos, e = .Call (.Attribute (.Name d dp) m apos) args [] pos) ∨ (∃ f fq d p args pos, e = .Call (.Name f fq) (.Name d p :: args) [] pos) ∨ callKind e = .other
theorem CallIs.meth (d : Str) (dp : Pos) (m : Str) (apos : Pos) (args : List Expr) (pos : Pos) : CallIs (.Call (.Attribute (.Name d dp) m apos) args [] pos) := .inl ⟨d, dp, m, apos, args, pos, rfl⟩
theorem CallIs.fn (f : Str) (fq : Pos) (d : Str) (p : Pos) (args : List Expr) (pos : Pos) : CallIs (.Call (.Name f fq) (.Name d p :: args) [] pos) := .inr (.inl ⟨f, fq, d, p, args, pos, rfl⟩)
theorem CallIs.no {e : Expr} (h : callKind e = .other) : CallIs e := .inr (.inr h)
theorem callFn_is {g : Str} {fq : Pos} {args : List Expr} {pos : Pos} : CallIs (.Call (.Name g fq) args [] pos) := by
  cases args with
  | nil => exact .no rfl
  | cons x args =>
    cases hx : nameOf2 x with
    | none => exact .no (congrArg (fun o => callFn2 g o args) hx)
    | some d => rw [nameOf2_eq hx]; exact .fn _ _ _ _ _ _
theorem callKind_is {e : Expr} : CallIs e := by
  cases hc : callOf e with
  | none => exact .no (congrArg callC hc)
  | some c =>
    rw [callOf_eq hc]
    cases c.2.2.1 with
    | cons => exact .no rfl
    | nil =>
      cases ha : attrOf c.1 with
      | some q =>
        cases hd : nameOf q.1 with
        | none => exact .no ((congrArg (fun o => callKind1 o c.1 c.2.1 c.2.2.2) ha).trans (congrArg (fun o => callMeth o q.2.1 q.2.2 c.2.1 c.2.2.2) hd))
        | some d => obtain ⟨dp, e⟩ := nameOf_eq hd; rw [attrOf_eq ha, e]; exact .meth _ _ _ _ _ _
      | none =>
        cases hf : nameOf c.1 with
        | none => exact .no ((congrArg (fun o => callKind1 o c.1 c.2.1 c.2.2.2) ha).trans (congrArg (fun o => callFn o c.2.1) hf))
        | some g => obtain ⟨fq, e⟩ := nameOf_eq hf; rw [e]; exact callFn_is
theorem isRng_eq {o : Option BI} (h : isRng o = true) : o = some .range := of_decide_eq_true h
theorem isEnu_eq {o : Option BI} (h : isEnu o = true) : o = some .enumerate := of_decide_eq_true h
theorem isSum_eq {b : BI} (h : isSum b = true) : b = .sum := of_decide_eq_true h
theorem isIsi_eq {b : BI} (h : isIsi b = true) : b = .isinstance := of_decide_eq_true h
theorem insL_is {as l l' : List PV} (e : insL l as = some l') : ∃ i v, as = [.int i, v] ∧ v.imm = true ∧ szOk l.length = true ∧ 0 ≤ i ∧ i ≤ l.length ∧ l' = l.take i.toNat ++ v :: l.drop i.toNat := by
  match as, e with
  | [], e => exact noS e
  | [_], e => exact noS e
  | [k, v], e =>
    obtain ⟨i, hi, e⟩ := bnd (show (intP k).bind (fun i => bif v.imm && szOk l.length && decide (0 ≤ i) && decide (i ≤ l.length) then some (l.take i.toNat ++ v :: l.drop i.toNat) else none) = some l' from e)
    obtain ⟨hc, e⟩ := onlyIf e
    obtain ⟨hc, h4⟩ := two hc
    obtain ⟨hc, h3⟩ := two hc
    obtain ⟨h1, h2⟩ := two hc
    exact ⟨i, v, by rw [intP_eq hi], h1, h2, of_decide_eq_true h3, of_decide_eq_true h4, (Option.some.inj e).symm⟩
  | _ :: _ :: _ :: _, e => exact noS e
theorem methL_is {m : Str} {as l l' : List PV} (e : methL m as l = some l') : strEq m "insert" = true ∧ insL l as = some l' := onlyIf (show (bif strEq m "insert" then insL l as else none) = some l' from e)
theorem bindA {p : Str} {ps : List Str} {a : Mode × PV} {as : List (Mode × PV)} {ds : List (Str × PV)} {vars : Vars} (e : bindArgsV (p :: ps) (a :: as) ds = some vars) : ∃ v, bindArgsV ps as (dropD p ds) = some v ∧ vars = (p, a) :: v := by
  obtain ⟨v, h, e⟩ := Option.map_eq_some_iff.mp (show (bindArgsV ps as (dropD p ds)).map ((p, a) :: ·) = some vars from e)
  exact ⟨v, h, e.symm⟩
theorem bindD {p : Str} {ps : List Str} {d : Str × PV} {ds : List (Str × PV)} {vars : Vars} (e : bindArgsV (p :: ps) [] (d :: ds) = some vars) : strEq p d.1 = true ∧ ∃ v, bindArgsV ps [] ds = some v ∧ vars = (p, .P, d.2) :: v := by
  obtain ⟨hp, e⟩ := ifO (show (if strEq p d.1 = true then (bindArgsV ps [] ds).map ((p, .P, d.2) :: ·) else none) = some vars from e)
  obtain ⟨v, h, e⟩ := Option.map_eq_some_iff.mp e
  exact ⟨hp, v, h, e.symm⟩
noncomputable def constP : Expr → Option PV
  | .Constant .none _ _ => some .none
  | .Constant (.int i) _ _ => some (.int i)
  | _ => Option.none
noncomputable def fnOfStmt (muts : List Str) (consts : List (Str × PV)) : Stmt → Option (Str × Fn)
  | .FunctionDef name args body _ _ _ scope _ _ _ =>
    let ps := args.args.map (·.arg)
    let ds := (ps.drop (ps.length - args.defaults.length)).zip (args.defaults.filterMap constP)
    let kd := (args.kwonlyargs.map (·.arg)).zip (args.kw_defaults.filterMap fun o => o.bind constP)
    some (name, ⟨ps, ds ++ kd, body, scope, muts.any (strEq name), (consts.find? fun c => strEq c.1 name).map (·.2)⟩)
  | _ => Option.none
noncomputable def tabOf (p : Program) (consts : List (Str × PV)) : Tab := p.main.body.filterMap (fnOfStmt ["insort_left"] consts)
end Mine
set_option maxHeartbeats 8000000
namespace Mine
open PySem PySem.W PyProof.Rows
noncomputable def kPg : Program := Challenge.rw_id0004_05.row.toRowW.1
noncomputable def stN (i : Nat) : Option Stmt := kPg.main.body[i]?
noncomputable def kArg : Arguments := ⟨[], [], none, [], [], none, []⟩
noncomputable def stF (i : Nat) : Arguments × List Stmt × Scope := match stN i with
  | some (.FunctionDef _ a b _ _ _ s _ _ _) => (a, b, s)
  | _ => (kArg, [], ⟨.function, [], false, false, []⟩)
noncomputable def vProg : Program := { kPg with main := { kPg.main with body := [1, 2, 7, 8, 9, 10, 11, 12, 13].filterMap stN } }
noncomputable def kOb (t : String) (d : Data) : Obj := ⟨.type t, none, d, #[]⟩
noncomputable def kVs (x : String) (t : Tok) : Value := .str (Str.ofString x) t
noncomputable def kDe (P : Params) (x : String) (t : Tok) (v : Value) : DictEntry := ⟨PyData.keyHash P (Str.ofString x), kVs x t, v⟩
noncomputable def kadrs : List Addr := [3, 20, 21, 27, 28, 29, 30, 36, 37, 38, 39, 45, 46, 52, 53, 59, 60, 66, 67, 73, 74, 80, 81, 87, 88, 92, 93]
noncomputable def heapK (P : Params) : Frag := [
  (3, kOb "dict" (Data.dict #[kDe P "__name__" 165 (kVs "law_id0004_05" 238), kDe P "__doc__" 166 Value.none, kDe P "__package__" 167 Value.none, kDe P "__loader__" 168 (Value.builtin "__main__.__loader__#opaque"), kDe P "__spec__" 169 Value.none, kDe P "__annotations__" 170 (Value.ref 6), kDe P "__builtins__" 171 (Value.ref 4), kDe P "__file__" 173 (kVs "/claim/cut.py" 172), kDe P "__cached__" 174 Value.none, kDe P "add_callers" 199 (Value.ref 21), kDe P "count_calls" 208 (Value.ref 28), kDe P "insort_left" 223 (Value.ref 37), kDe P "bisect_left" 237 (Value.ref 46), kDe P "_law_every" 247 (Value.ref 53), kDe P "_law_begins" 258 (Value.ref 60), kDe P "_law_has" 267 (Value.ref 67), kDe P "_law_back" 276 (Value.ref 74), kDe P "_law_goes" 285 (Value.ref 81), kDe P "_law_ends" 300 (Value.ref 88), kDe P "law" 306 (Value.ref 93)] 20)),
  (20, kOb "code" (Data.fields #[(kVs "add_callers" 189), (kVs "add_callers" 190), (kVs "/claim/cut.py" 191), (.int 2 0), (.int 2 0), (.int 0 0), (.int 0 0), (.int 3 0), (Value.ref 15), (Value.bool true), (.int 181 0), (Value.ref 16), Value.none, (Value.ref 17), (Value.ref 18), (Value.ref 19), (.int 197 0), (.int 2 0), (kVs "/claim/cut.py" 198)])),
  (21, kOb "function" (Data.func (FuncData.mk (Str.ofString "add_callers") (Str.ofString "add_callers") (stF 1).1 (.stmts (stF 1).2.1) (stF 1).2.2 3 [] Value.none Value.none Value.none (kVs "cpy313.pstats" 187) none (Value.ref 20) Value.none 0))),
  (27, kOb "code" (Data.fields #[(kVs "count_calls" 200), (kVs "count_calls" 201), (kVs "/claim/cut.py" 202), (.int 15 0), (.int 1 0), (.int 0 0), (.int 0 0), (.int 3 0), (Value.ref 22), (Value.bool true), (.int 181 0), (Value.ref 23), Value.none, (Value.ref 24), (Value.ref 25), (Value.ref 26), (.int 206 0), (.int 15 0), (kVs "/claim/cut.py" 207)])),
  (28, kOb "function" (Data.func (FuncData.mk (Str.ofString "count_calls") (Str.ofString "count_calls") (stF 2).1 (.stmts (stF 2).2.1) (stF 2).2.2 3 [] Value.none Value.none Value.none (kVs "cpy313.pstats" 187) none (Value.ref 27) Value.none 0))),
  (29, kOb "tuple" (Data.seq #[(.int 0 211), Value.none] 0)),
  (30, kOb "dict" (Data.dict #[kDe P "key" 212 Value.none] 1)),
  (36, kOb "code" (Data.fields #[(kVs "insort_left" 213), (kVs "insort_left" 214), (kVs "/claim/cut.py" 215), (.int 21 0), (.int 4 0), (.int 0 0), (.int 1 0), (.int 3 0), (Value.ref 31), (Value.bool true), (.int 181 0), (Value.ref 32), Value.none, (Value.ref 33), (Value.ref 34), (Value.ref 35), (.int 221 0), (.int 21 0), (kVs "/claim/cut.py" 222)])),
  (37, kOb "function" (Data.func (FuncData.mk (Str.ofString "insort_left") (Str.ofString "insort_left") (stF 4).1 (.stmts (stF 4).2.1) (stF 4).2.2 3 [] (Value.ref 29) (Value.ref 30) Value.none (kVs "cpy313.bisect" 209) none (Value.ref 36) Value.none 0))),
  (38, kOb "tuple" (Data.seq #[(.int 0 224), Value.none] 0)),
  (39, kOb "dict" (Data.dict #[kDe P "key" 225 Value.none] 1)),
  (45, kOb "code" (Data.fields #[(kVs "bisect_left" 226), (kVs "bisect_left" 227), (kVs "/claim/cut.py" 228), (.int 27 0), (.int 4 0), (.int 0 0), (.int 1 0), (.int 3 0), (Value.ref 40), (Value.bool true), (.int 181 0), (Value.ref 41), Value.none, (Value.ref 42), (Value.ref 43), (Value.ref 44), (.int 235 0), (.int 27 0), (kVs "/claim/cut.py" 236)])),
  (46, kOb "function" (Data.func (FuncData.mk (Str.ofString "bisect_left") (Str.ofString "bisect_left") (stF 5).1 (.stmts (stF 5).2.1) (stF 5).2.2 3 [] (Value.ref 38) (Value.ref 39) Value.none (kVs "cpy313.bisect" 209) none (Value.ref 45) Value.none 0))),
  (52, kOb "code" (Data.fields #[(kVs "_law_every" 240), (kVs "_law_every" 241), (kVs "/claim/cut.py" 242), (.int 48 0), (.int 0 0), (.int 0 0), (.int 0 0), (.int 3 0), (Value.ref 47), (Value.bool true), (.int 181 0), (Value.ref 48), Value.none, (Value.ref 49), (Value.ref 50), (Value.ref 51), (.int 245 0), (.int 48 0), (kVs "/claim/cut.py" 246)])),
  (53, kOb "function" (Data.func (FuncData.mk (Str.ofString "_law_every") (Str.ofString "_law_every") (stF 7).1 (.stmts (stF 7).2.1) (stF 7).2.2 3 [] Value.none Value.none Value.none (kVs "law_id0004_05" 238) none (Value.ref 52) Value.none 0))),
  (59, kOb "code" (Data.fields #[(kVs "_law_begins" 248), (kVs "_law_begins" 249), (kVs "/claim/cut.py" 250), (.int 54 0), (.int 1 0), (.int 0 0), (.int 0 0), (.int 3 0), (Value.ref 54), (Value.bool true), (.int 181 0), (Value.ref 55), Value.none, (Value.ref 56), (Value.ref 57), (Value.ref 58), (.int 256 0), (.int 54 0), (kVs "/claim/cut.py" 257)])),
  (60, kOb "function" (Data.func (FuncData.mk (Str.ofString "_law_begins") (Str.ofString "_law_begins") (stF 8).1 (.stmts (stF 8).2.1) (stF 8).2.2 3 [] Value.none Value.none Value.none (kVs "law_id0004_05" 238) none (Value.ref 59) Value.none 0))),
  (66, kOb "code" (Data.fields #[(kVs "_law_has" 259), (kVs "_law_has" 260), (kVs "/claim/cut.py" 261), (.int 62 0), (.int 2 0), (.int 0 0), (.int 0 0), (.int 3 0), (Value.ref 61), (Value.bool true), (.int 181 0), (Value.ref 62), Value.none, (Value.ref 63), (Value.ref 64), (Value.ref 65), (.int 265 0), (.int 62 0), (kVs "/claim/cut.py" 266)])),
  (67, kOb "function" (Data.func (FuncData.mk (Str.ofString "_law_has") (Str.ofString "_law_has") (stF 9).1 (.stmts (stF 9).2.1) (stF 9).2.2 3 [] Value.none Value.none Value.none (kVs "law_id0004_05" 238) none (Value.ref 66) Value.none 0))),
  (73, kOb "code" (Data.fields #[(kVs "_law_back" 268), (kVs "_law_back" 269), (kVs "/claim/cut.py" 270), (.int 65 0), (.int 2 0), (.int 0 0), (.int 0 0), (.int 3 0), (Value.ref 68), (Value.bool true), (.int 181 0), (Value.ref 69), Value.none, (Value.ref 70), (Value.ref 71), (Value.ref 72), (.int 274 0), (.int 65 0), (kVs "/claim/cut.py" 275)])),
  (74, kOb "function" (Data.func (FuncData.mk (Str.ofString "_law_back") (Str.ofString "_law_back") (stF 10).1 (.stmts (stF 10).2.1) (stF 10).2.2 3 [] Value.none Value.none Value.none (kVs "law_id0004_05" 238) none (Value.ref 73) Value.none 0))),
  (80, kOb "code" (Data.fields #[(kVs "_law_goes" 277), (kVs "_law_goes" 278), (kVs "/claim/cut.py" 279), (.int 70 0), (.int 3 0), (.int 0 0), (.int 0 0), (.int 3 0), (Value.ref 75), (Value.bool true), (.int 181 0), (Value.ref 76), Value.none, (Value.ref 77), (Value.ref 78), (Value.ref 79), (.int 283 0), (.int 70 0), (kVs "/claim/cut.py" 284)])),
  (81, kOb "function" (Data.func (FuncData.mk (Str.ofString "_law_goes") (Str.ofString "_law_goes") (stF 11).1 (.stmts (stF 11).2.1) (stF 11).2.2 3 [] Value.none Value.none Value.none (kVs "law_id0004_05" 238) none (Value.ref 80) Value.none 0))),
  (87, kOb "code" (Data.fields #[(kVs "_law_ends" 286), (kVs "_law_ends" 287), (kVs "/claim/cut.py" 288), (.int 78 0), (.int 2 0), (.int 0 0), (.int 0 0), (.int 3 0), (Value.ref 82), (Value.bool true), (.int 181 0), (Value.ref 83), Value.none, (Value.ref 84), (Value.ref 85), (Value.ref 86), (.int 298 0), (.int 78 0), (kVs "/claim/cut.py" 299)])),
  (88, kOb "function" (Data.func (FuncData.mk (Str.ofString "_law_ends") (Str.ofString "_law_ends") (stF 12).1 (.stmts (stF 12).2.1) (stF 12).2.2 3 [] Value.none Value.none Value.none (kVs "law_id0004_05" 238) none (Value.ref 87) Value.none 0))),
  (92, kOb "code" (Data.fields #[(kVs "law" 301), (kVs "law" 302), (kVs "/claim/cut.py" 303), (.int 91 0), (.int 1 0), (.int 0 0), (.int 0 0), (.int 3 0), (Value.ref 89), (Value.bool true), (.int 181 0), (Value.ref 90), Value.none, Value.none, Value.none, (Value.ref 91), (.int 304 0), (.int 91 0), (kVs "/claim/cut.py" 305)])),
  (93, kOb "function" (Data.func (FuncData.mk (Str.ofString "law") (Str.ofString "law") (stF 13).1 (.stmts (stF 13).2.1) (stF 13).2.2 3 [] Value.none Value.none Value.none (kVs "law_id0004_05" 238) none (Value.ref 92) Value.none 0)))]
noncomputable def kHk : Hook := kHook heapK kadrs (fun _ => by kernel_rfl)
noncomputable def kLse : List Str := ["insort_left", "bisect_left"].map Str.ofString
noncomputable def kDf : Option (DefRec × List (Str × Expr)) := defOf vProg Challenge.rw_id0004_05.row.toRowW.name
theorem kLft : LeftO kPg vProg kLse (fun s => xlAt vProg [] s && recOk (RowW.records Challenge.rw_id0004_05.row.toRowW) s) kHk.obs kHk.val 908 := fun w => by kernel_rfl
end Mine
namespace Mine
open PySem PySem.W PyProof.Rows
noncomputable def kDR : DefRec × List (Str × Expr) := kDf.getD (⟨Str.ofString "", kArg, [], ⟨.function, [], false, false, []⟩, default⟩, [])
noncomputable def rwr : OpenRow := Challenge.rw_id0004_05.row
noncomputable def XtK (s : Shared) : Bool := xlAt vProg [] s && recOk (RowW.records rwr.toRowW) s
theorem kSaid : Challenge.rw_id0004_05.wellSaid = true := by kernel_rfl
theorem kP1 : defOf vProg rwr.name = some kDR := by kernel_rfl
theorem kP2 : rwr.prog.theDef rwr.name = some (kDR.1.params, kDR.1.body, kDR.1.scope) := by kernel_rfl
theorem kP3 : kwWritten? kDR.1.params.kwonlyargs kDR.1.params.kw_defaults = some kDR.2 := by kernel_rfl
theorem kP4 : (!rwr.writes || rwr.records.isEmpty) = true := by kernel_rfl
theorem kP5 : (chainsOk vProg && opensWell rwr.prog && (frees rwr.toRowW && rwr.within.isEmpty)) = true := by kernel_rfl
theorem kP6 : rwr.prog.bare := ⟨by kernel_rfl, by kernel_rfl, by kernel_rfl, by kernel_rfl, by kernel_rfl, by kernel_rfl⟩
theorem kP7 : Challenge.rw_id0004_05.row.toRowW.promised := by w_witness2
theorem kTop (walk : WalkO vProg kLse (XL vProg []) kHk.says rwr.toRowW kDR.1 kDR.2 (fun f kVs => PySem.call f kVs)) : Challenge.rw_id0004_05.Holds :=
  holds_law kSaid fun k1 => holds_open (r := rwr) (Xt := XtK) (Yf := kHk.obs) (Ya := kHk.val) (YP := kHk.says) kLft kHk.of kHk.keeps (fun s e => xl_of s (Bool.and_eq_true_iff.mp e).1) XL.keeps kP1 kP2 kP3 (fun s e => recFacts_of (Bool.and_eq_true_iff.mp e).2) kP4 k1 kP5 kP6 kP7 walk
end Mine
namespace Mine
open PySem PySem.W PyProof.Rows
noncomputable def goodOf {X : World → Prop} {P : Prop} (_ : (∀ w, X w) = P) : World → Prop := X
noncomputable def Good : World → Prop := goodOf (P := WalkO vProg kLse (XL vProg []) kHk.says rwr.toRowW kDR.1 kDR.2 fun f vs => PySem.call f vs) rfl
noncomputable def prog : Program := rwr.toRowW.prog
noncomputable def w : World := @Classical.epsilon World ⟨aWorld 1⟩ fun x => ¬ Good x
theorem good_all (h : Good w) : WalkO vProg kLse (XL vProg []) kHk.says rwr.toRowW kDR.1 kDR.2 fun f vs => PySem.call f vs :=
  fun x => Classical.byContradiction fun n => @Classical.epsilon_spec_aux World ⟨aWorld 1⟩ (fun x => ¬ Good x) ⟨x, n⟩ h
end Mine
namespace Mine
open PySem PySem.Calls PyProof.Rows PySem.W PySem.SeqAt
inductive Atom where
  | int (i : Int)
  | str (s : Str)
  deriving DecidableEq
noncomputable def Atom.is : Atom → Value → Bool
  | .int i, v => v.isInt i
  | .str x, v => v.isStrOf x
noncomputable def Atom.hash (w : World) : Atom → Int
  | .int i => hashInt i
  | .str x => hashStr w x
theorem Atom.is_shape {a : Atom} {v : Value} (h : a.is v = true) : (∃ i t, a = .int i ∧ v = .int i t) ∨ ∃ x t, a = .str x ∧ v = .str x t := by
  cases a with
  | int i => obtain ⟨t, rfl⟩ := Value.isInt_shape h; exact .inl ⟨i, t, rfl, rfl⟩
  | str x => obtain ⟨t, rfl⟩ := Value.isStrOf_shape h; exact .inr ⟨x, t, rfl, rfl⟩
noncomputable def atomKind : PySem.KeyKind prog w Atom where
  is := Atom.is
  hash := Atom.hash w
  inj := fun v a b ha hb => by
    rcases Atom.is_shape ha with ⟨i, t, rfl, rfl⟩ | ⟨x, t, rfl, rfl⟩ <;> rcases Atom.is_shape hb with ⟨j, u, rfl, e⟩ | ⟨y, u, rfl, e⟩ <;> cases e <;> rfl
  byValue := fun k v h => by
    rcases Atom.is_shape h with ⟨i, t, rfl, rfl⟩ | ⟨x, t, rfl, rfl⟩ <;> rfl
  pyHash := fun {A E s k v Q} hv h => by
    rcases Atom.is_shape hv with ⟨i, t, rfl, rfl⟩ | ⟨x, t, rfl, rfl⟩
    · exact wpAny_pyHash_int h
    · exact wpAny_pyHash_str h
  eqBool := fun {A E s a b u v Q} hu hv h => by
    rcases Atom.is_shape hu with ⟨i, t, rfl, rfl⟩ | ⟨x, t, rfl, rfl⟩ <;> rcases Atom.is_shape hv with ⟨j, u, rfl, rfl⟩ | ⟨y, u, rfl, rfl⟩
    · refine wpAny_eqBool_int ?_
      have e : decide (Atom.int i = Atom.int j) = (i == j) := by
        by_cases hij : i = j
        · subst hij; simp
        · simp [hij]
      rw [← e]; exact h
    · have e : decide (Atom.int i = Atom.str y) = false := by simp
      rw [e] at h
      exact EqAt.int_str i t y u prog w E _ h
    · have e : decide (Atom.str x = Atom.int j) = false := by simp
      rw [e] at h
      exact EqAt.str_int x t j u prog w E _ h
    · refine wpAny_eqBool_str ?_
      have e : decide (Atom.str x = Atom.str y) = decide (x = y) := by simp
      rw [← e]; exact h
  «strs» := fun k x t v h => by
    rcases Atom.is_shape h with ⟨i, u, _, e⟩ | ⟨y, u, rfl, e⟩
    · cases e
    · cases e
      exact (strKind prog w).«strs» x x t v (by simp [PySem.strKind, Value.isStrOf])
noncomputable def atomPV : Atom → PV
  | .int i => .int i
  | .str s => .str s.cps.toList
noncomputable def tupPV (l : List Atom) : PV := .tup (l.map atomPV)
theorem Str.ext_list {x y : Str} (h : x.cps.toList = y.cps.toList) : x = y := by
  cases x; cases y; simp only [PySem.Str.mk.injEq]; exact Array.toList_inj.mp h
theorem atomPV_inj {a b : Atom} (h : atomPV a = atomPV b) : a = b := by
  cases a <;> cases b <;> simp only [atomPV, PV.int.injEq, PV.str.injEq, reduceCtorEq] at h
  · rw [h]
  · rw [Str.ext_list h]
theorem tupPV_inj {a b : List Atom} (h : tupPV a = tupPV b) : a = b := by
  unfold tupPV at h
  simp only [PV.tup.injEq] at h
  exact (List.map_inj_right (fun _ _ e => atomPV_inj e)).mp h
noncomputable def PlainTup (h : Heap) (a : Addr) (items : Array Value) : Prop := ∃ n, IsT h a items n
theorem PlainTup.isTuple {h : Heap} {a : Addr} {items : Array Value} (x : PlainTup h a items) : h.IsTuple a items := let ⟨n, e⟩ := x; ⟨_, e, rfl, n, rfl⟩
noncomputable def tupKind : HeapKind prog w (List Atom) where
  is := fun h ks a => IsTupleKey (atomKind) h ks a ∧ ∃ items, PlainTup h a items
  hash := (tupleKind (atomKind)).hash
  draws := (tupleKind (atomKind)).draws
  room := fun A => A.units < cLine
  inj := fun hx hy => (tupleKind (atomKind)).inj hx.1 hy.1
  keeps := fun {h h' k a d o es ep} x ho hd hs => ⟨(tupleKind (atomKind)).keeps x.1 ho hd hs, by
    obtain ⟨items, n, e⟩ := x.2
    refine ⟨items, n, (hs.2 a ?_).trans e⟩
    rintro rfl
    rw [e] at ho; cases ho; cases hd⟩
  pyHash := fun hu hk q => (tupleKind (atomKind)).pyHash hu hk.1 q
  eqBool := fun hu hx hy q => (tupleKind (atomKind)).eqBool hu hx.1 hy.1 q
  quiet := fun hk q => (tupleKind (atomKind)).quiet hk.1 q
section
mutual
inductive VRep (h : Heap) (ok : Addr → Prop) : PV → Value → Prop
  | none : VRep h ok .none .none
  | bool (b : Bool) : VRep h ok (.bool b) (.bool b)
  | int (i : Int) (t : Tok) : VRep h ok (.int i) (.int i t)
  | str {l : List Nat} (s : Str) (t : Tok) (e : s.cps.toList = l) : VRep h ok (.str l) (.str s t)
  | tup {l : List PV} {a : Addr} {items : Array Value} (hl : PlainTup h a items) (ha : VAll h ok l items.toList) : VRep h ok (.tup l) (.ref a)
  | list {l : List PV} {a : Addr} {items : Array Value} (hk : ok a) (hl : h.PlainList a items) (ha : VAll h ok l items.toList) : VRep h ok (.list l) (.ref a)
  | dictT {ks vs : List PV} {a : Addr} (xs : List (List Atom × Addr × Value)) (hk : ok a) (hd : h.DictOfH (tupKind) a xs) (hds : (a == sysModules) = false)
      (e : ks = xs.map fun x => tupPV x.1) (ha : VAll h ok vs (xs.map fun x => x.2.2)) : VRep h ok (.dict ks vs) (.ref a)
  | dictA {ks vs : List PV} {a : Addr} (xs : List (Atom × Value)) (hk : ok a) (hd : h.DictOf (atomKind) a xs) (hds : (a == sysModules) = false)
      (e : ks = xs.map fun x => atomPV x.1) (ha : VAll h ok vs (xs.map fun x => x.2)) : VRep h ok (.dict ks vs) (.ref a)
inductive VAll (h : Heap) (ok : Addr → Prop) : List PV → List Value → Prop
  | nil : VAll h ok [] []
  | cons {x : PV} {v : Value} {l : List PV} {vs : List Value} (a : VRep h ok x v) (r : VAll h ok l vs) : VAll h ok (x :: l) (v :: vs)
end
end
section
variable {h h' : Heap} {ok ok' : Addr → Prop}
theorem VRep.none_inv {v : Value} (r : VRep h ok .none v) : v = .none := by cases r; rfl
theorem VRep.bool_inv {b : Bool} {v : Value} (r : VRep h ok (.bool b) v) : v = .bool b := by cases r; rfl
theorem VRep.int_inv {i : Int} {v : Value} (r : VRep h ok (.int i) v) : ∃ t, v = .int i t := by cases r; exact ⟨_, rfl⟩
theorem VRep.str_inv {l : List Nat} {v : Value} (r : VRep h ok (.str l) v) : ∃ s t, v = .str s t ∧ s.cps.toList = l := by cases r; exact ⟨_, _, rfl, by assumption⟩
theorem VRep.tup_inv {l : List PV} {v : Value} (r : VRep h ok (.tup l) v) : ∃ a items, v = .ref a ∧ PlainTup h a items ∧ VAll h ok l items.toList := by
  cases r with | tup hl ha => exact ⟨_, _, rfl, hl, ha⟩
theorem VRep.list_inv {l : List PV} {v : Value} (r : VRep h ok (.list l) v) : ∃ a items, v = .ref a ∧ ok a ∧ h.PlainList a items ∧ VAll h ok l items.toList := by
  cases r with | list hk hl ha => exact ⟨_, _, rfl, hk, hl, ha⟩
theorem VAll.nil_inv {vs : List Value} (r : VAll h ok [] vs) : vs = [] := by cases r; rfl
theorem VAll.nil_inv' {l : List PV} (r : VAll h ok l []) : l = [] := by cases r; rfl
theorem VAll.cons_inv {x : PV} {l : List PV} {vs : List Value} (r : VAll h ok (x :: l) vs) : ∃ v us, vs = v :: us ∧ VRep h ok x v ∧ VAll h ok l us := by
  cases r with | cons a r => exact ⟨_, _, rfl, a, r⟩
theorem VAll.cons_inv' {l : List PV} {v : Value} {us : List Value} (r : VAll h ok l (v :: us)) : ∃ x m, l = x :: m ∧ VRep h ok x v ∧ VAll h ok m us := by
  cases r with | cons a r => exact ⟨_, _, rfl, a, r⟩
noncomputable def isTupObj (o : Obj) : Prop := o.cls = .type "tuple" ∧ ∃ xs n, o.data = .seq xs n
noncomputable def Kp (W : Addr → Prop) (h h' : Heap) : Prop := ∀ a o, h.get? a = some o → (¬ W a ∨ isTupObj o) → h'.get? a = some o
theorem Kp.refl (W : Addr → Prop) (h : Heap) : Kp W h h := fun _ _ e _ => e
theorem Kp.trans {W : Addr → Prop} {h₁ h₂ h₃ : Heap} (a : Kp W h₁ h₂) (b : Kp W h₂ h₃) : Kp W h₁ h₃ := fun x o e k => b x o (a x o e k) k
theorem Kp.mono {W V : Addr → Prop} (s : ∀ a, W a → V a) (k : Kp W h h') : Kp V h h' := fun a o e q => k a o e (q.imp (fun n x => n (s a x)) id)
theorem Kp.of_stays {W : Addr → Prop} (s : h.StaysIn h') : Kp W h h' := fun a o e _ => s a o e
theorem plainTup_kp {W : Addr → Prop} {a : Addr} {items : Array Value} (k : Kp W h h') (x : PlainTup h a items) : PlainTup h' a items := by
  obtain ⟨n, e⟩ := x
  exact ⟨n, k a _ e (.inr ⟨rfl, _, _, rfl⟩)⟩
theorem isTupKey_kp {W : Addr → Prop} {a : Addr} {ks : List Atom} (k : Kp W h h') (x : (tupKind).is h ks a) : (tupKind).is h' ks a := by
  obtain ⟨⟨o, items, n, ho, hc, hd, r⟩, y⟩ := x
  exact ⟨⟨o, items, n, k a o ho (.inr ⟨hc, _, _, hd⟩), hc, hd, r⟩, y.imp fun _ z => plainTup_kp k z⟩
theorem reps_map (hT : ∀ a items, PlainTup h a items → PlainTup h' a items) (hL : ∀ a items, ok a → h.PlainList a items → ok' a ∧ h'.PlainList a items)
    (hD : ∀ a xs, ok a → h.DictOfH (tupKind) a xs → ok' a ∧ h'.DictOfH (tupKind) a xs) (hA : ∀ a xs, ok a → h.DictOf (atomKind) a xs → ok' a ∧ h'.DictOf (atomKind) a xs) :
    (∀ x v, VRep h ok x v → VRep h' ok' x v) ∧ ∀ l vs, VAll h ok l vs → VAll h' ok' l vs :=
  have m1 := fun {l a items} (hl : PlainTup h a items) (_ : VAll h ok l items.toList) (ih : VAll h' ok' l items.toList) => VRep.tup (hT _ _ hl) ih
  have m2 := fun {l a items} (o : ok a) (hl : h.PlainList a items) (_ : VAll h ok l items.toList) (ih : VAll h' ok' l items.toList) => VRep.list (hL _ _ o hl).1 (hL _ _ o hl).2 ih
  have m3 := fun {ks vs : List PV} {a : Addr} (xs : List (List Atom × Addr × Value)) (o : ok a) (hd : h.DictOfH (tupKind) a xs) (hds : (a == sysModules) = false) (e : ks = xs.map fun x => tupPV x.1) (_ : VAll h ok vs (xs.map fun x => x.2.2)) (ih : VAll h' ok' vs (xs.map fun x => x.2.2)) =>
    VRep.dictT xs (hD _ _ o hd).1 (hD _ _ o hd).2 hds e ih
  have m4 := fun {ks vs : List PV} {a : Addr} (xs : List (Atom × Value)) (o : ok a) (hd : h.DictOf (atomKind) a xs) (hds : (a == sysModules) = false) (e : ks = xs.map fun x => atomPV x.1) (_ : VAll h ok vs (xs.map fun x => x.2)) (ih : VAll h' ok' vs (xs.map fun x => x.2)) =>
    VRep.dictA xs (hA _ _ o hd).1 (hA _ _ o hd).2 hds e ih
  ⟨fun _ _ r => VRep.rec (motive_1 := fun x v _ => VRep h' ok' x v) (motive_2 := fun l vs _ => VAll h' ok' l vs) .none .bool .int .str m1 m2 m3 m4 .nil (fun _ _ a r => .cons a r) r,
   fun _ _ r => VAll.rec (motive_1 := fun x v _ => VRep h' ok' x v) (motive_2 := fun l vs _ => VAll h' ok' l vs) .none .bool .int .str m1 m2 m3 m4 .nil (fun _ _ a r => .cons a r) r⟩
theorem reps_kp {W : Addr → Prop} (k : Kp W h h') (s : ∀ a, ok a → ¬ W a ∧ ok' a) : (∀ x v, VRep h ok x v → VRep h' ok' x v) ∧ ∀ l vs, VAll h ok l vs → VAll h' ok' l vs :=
  reps_map (fun _ _ => plainTup_kp k) (fun a _ o hl => ⟨(s a o).2, hl.at fun ob e => k _ ob e (.inl (s a o).1)⟩)
    (fun a _ o hd => ⟨(s a o).2, by obtain ⟨ob, es, ep, ho, h1, h2, h3, h4, h5⟩ := hd; exact ⟨ob, es, ep, k _ ob ho (.inl (s a o).1), h1, h2, h3, fun x hx => isTupKey_kp k (h4 x hx), h5⟩⟩)
    (fun a _ o hd => ⟨(s a o).2, by obtain ⟨ob, es, ep, ho, r⟩ := hd; exact ⟨ob, es, ep, k _ ob ho (.inl (s a o).1), r⟩⟩)
theorem VRep.kp {W : Addr → Prop} (k : Kp W h h') (s : ∀ a, ok a → ¬ W a ∧ ok' a) {x : PV} {v : Value} (r : VRep h ok x v) : VRep h' ok' x v := (reps_kp k s).1 x v r
theorem VAll.kp {W : Addr → Prop} (k : Kp W h h') (s : ∀ a, ok a → ¬ W a ∧ ok' a) {l : List PV} {vs : List Value} (r : VAll h ok l vs) : VAll h' ok' l vs := (reps_kp k s).2 l vs r
theorem VRep.stays (k : h.StaysIn h') (s : ∀ a, ok a → ok' a) {x : PV} {v : Value} (r : VRep h ok x v) : VRep h' ok' x v :=
  r.kp (W := fun _ => False) (Kp.of_stays k) fun a o => ⟨id, s a o⟩
theorem VAll.stays (k : h.StaysIn h') (s : ∀ a, ok a → ok' a) {x : List PV} {v : List Value} (r : VAll h ok x v) : VAll h' ok' x v :=
  r.kp (W := fun _ => False) (Kp.of_stays k) fun a o => ⟨id, s a o⟩
theorem VRep.weaken (s : ∀ a, ok a → ok' a) {x : PV} {v : Value} (r : VRep h ok x v) : VRep h ok' x v := r.stays (fun _ _ e => e) s
theorem VAll.weaken (s : ∀ a, ok a → ok' a) {x : List PV} {v : List Value} (r : VAll h ok x v) : VAll h ok' x v := r.stays (fun _ _ e => e) s
theorem VAll.length {l : List PV} {vs : List Value} (r : VAll h ok l vs) : l.length = vs.length := by
  induction vs generalizing l with
  | nil => cases r; rfl
  | cons v vs ih => cases r with
    | cons a r => simp [ih r]
theorem VAll.append {l m : List PV} {vs us : List Value} (r : VAll h ok l vs) (q : VAll h ok m us) : VAll h ok (l ++ m) (vs ++ us) := by
  induction vs generalizing l with
  | nil => cases r; exact q
  | cons v vs ih => cases r with
    | cons a r => exact .cons a (ih r)
theorem VAll.get {l : List PV} {vs : List Value} (r : VAll h ok l vs) {i : Nat} {x : PV} (e : l[i]? = some x) : ∃ v, vs[i]? = some v ∧ VRep h ok x v := by
  induction vs generalizing l i with
  | nil => cases r; simp at e
  | cons v vs ih => cases r with
    | cons a r =>
      cases i with
      | zero => simp at e; subst e; exact ⟨v, rfl, a⟩
      | succ i => simpa using ih r (by simpa using e)
theorem VAll.get' {l : List PV} {vs : List Value} (r : VAll h ok l vs) {i : Nat} {v : Value} (e : vs[i]? = some v) : ∃ x, l[i]? = some x ∧ VRep h ok x v := by
  induction vs generalizing l i with
  | nil => simp at e
  | cons u vs ih => cases r with
    | cons a r =>
      cases i with
      | zero => simp at e; subst e; exact ⟨_, rfl, a⟩
      | succ i => simpa using ih r (by simpa using e)
theorem VAll.take {l : List PV} {vs : List Value} (r : VAll h ok l vs) (n : Nat) : VAll h ok (l.take n) (vs.take n) := by
  induction vs generalizing l n with
  | nil => cases r; simpa using VAll.nil
  | cons u vs ih => cases r with
    | cons a r =>
      cases n with
      | zero => exact .nil
      | succ n => exact .cons a (ih r n)
theorem VAll.drop {l : List PV} {vs : List Value} (r : VAll h ok l vs) (n : Nat) : VAll h ok (l.drop n) (vs.drop n) := by
  induction vs generalizing l n with
  | nil => cases r; simpa using VAll.nil
  | cons u vs ih => cases r with
    | cons a r =>
      cases n with
      | zero => exact .cons a r
      | succ n => exact ih r n
theorem VAll.reverse {l : List PV} {vs : List Value} (r : VAll h ok l vs) : VAll h ok l.reverse vs.reverse := by
  induction vs generalizing l with
  | nil => cases r; exact .nil
  | cons u vs ih => cases r with
    | cons a r => simpa using (ih r).append (.cons a .nil)
theorem vall_any {P : PV → Bool} (hP : ∀ x v, P x = true → VRep h ok x v → VRep h ok' x v) : ∀ {l : List PV} {vs : List Value}, l.all P = true → VAll h ok l vs → VAll h ok' l vs
  | [], vs, _, r => by rw [r.nil_inv]; exact .nil
  | x :: l, vs, e, r => by
    obtain ⟨v, us, rfl, a, r⟩ := r.cons_inv
    obtain ⟨e1, e2⟩ := two (show (P x && l.all P) = true from e)
    exact .cons (hP _ _ e1 a) (vall_any hP e2 r)
theorem immN_any : ∀ (n : Nat) {x : PV} {v : Value}, immN n x = true → VRep h ok x v → VRep h ok' x v
  | 0, _, _, e, _ => nomatch (show false = true from e)
  | n + 1, x, v, e, r => by
    cases x with
    | none => rw [r.none_inv]; exact .none
    | bool b => rw [r.bool_inv]; exact .bool b
    | int i => obtain ⟨t, rfl⟩ := r.int_inv; exact .int i t
    | str l => obtain ⟨s, t, rfl, e'⟩ := r.str_inv; exact .str s t e'
    | tup l =>
      obtain ⟨a, items, rfl, hl, al⟩ := r.tup_inv
      exact .tup hl (vall_any (fun _ _ => immN_any n) (show l.all (immN n) = true from e) al)
    | list l => exact nomatch (show false = true from e)
    | dict ks vs => exact nomatch (show false = true from e)
theorem imm_any {x : PV} {v : Value} (e : x.imm = true) (r : VRep h ok x v) : VRep h ok' x v := immN_any 6 e r
theorem imms_any {l : List PV} {vs : List Value} (e : PV.imms l = true) (r : VAll h ok l vs) : VAll h ok' l vs := vall_any (fun _ _ => imm_any) e r
theorem PlainTup.inj {a : Addr} {x y : Array Value} (p : PlainTup h a x) (q : PlainTup h a y) : x = y := by
  obtain ⟨n, hd⟩ := p
  obtain ⟨n', hd'⟩ := q
  have e := hd.symm.trans hd'
  cases e; rfl
theorem both_some {o p : Option Bool} {b : Bool} (h : both o p = some b) : ∃ c d, o = some c ∧ p = some d ∧ (c && d) = b := by
  cases o with
  | none => exact noS h
  | some c =>
    cases p with
    | none => exact noS h
    | some d => exact ⟨c, d, rfl, rfl, Option.some.inj h⟩
inductive EqS (f : PV → PV → Option Bool) : PV → PV → Bool → Prop
  | nn : EqS f .none .none true
  | bb (a c : Bool) : EqS f (.bool a) (.bool c) (a == c)
  | ii (a c : Int) : EqS f (.int a) (.int c) (a == c)
  | ss (a c : List Nat) : EqS f (.str a) (.str c) (a == c)
  | tt {l m : List PV} {b : Bool} (h : eqsL f l m = some b) : EqS f (.tup l) (.tup m) b
  | ll {l m : List PV} {b : Bool} (h : (if (l.length == m.length) = true then eqsL f l m else some false) = some b) : EqS f (.list l) (.list m) b
  | ns (a : List Nat) : EqS f .none (.str a) false
  | sn (a : List Nat) : EqS f (.str a) .none false
  | ni (a : Int) : EqS f .none (.int a) false
  | on (a : Int) : EqS f (.int a) .none false
theorem eqN_is {n : Nat} {x y : PV} {b : Bool} (h : eqN (n + 1) x y = some b) : EqS (eqN n) x y b := by
  cases x with
  | none =>
    cases y with
    | none => cases (show some true = some b from h); exact .nn
    | str a => cases (show some false = some b from h); exact .ns a
    | int a => cases (show some false = some b from h); exact .ni a
    | _ => exact noS h
  | bool a =>
    cases y with
    | bool c => cases (show some (a == c) = some b from h); exact .bb a c
    | _ => exact noS h
  | int a =>
    cases y with
    | int c => cases (show some (a == c) = some b from h); exact .ii a c
    | none => cases (show some false = some b from h); exact .on a
    | _ => exact noS h
  | str a =>
    cases y with
    | str c => cases (show some (a == c) = some b from h); exact .ss a c
    | none => cases (show some false = some b from h); exact .sn a
    | _ => exact noS h
  | tup l =>
    cases y with
    | tup m => exact .tt h
    | _ => exact noS h
  | list l =>
    cases y with
    | list m => exact .ll h
    | _ => exact noS h
  | dict => exact noS h
theorem eqsL_self {f : PV → PV → Option Bool} {ok' : Addr → Prop} (hf : ∀ x y v b, VRep h ok x v → VRep h ok' y v → f x y = some b → b = true) : ∀ {l m : List PV} {vs : List Value} {b : Bool}, VAll h ok l vs → VAll h ok' m vs → eqsL f l m = some b → b = true
  | [], m, vs, b, p, q, e => by
    obtain rfl := p.nil_inv
    obtain rfl := q.nil_inv'
    exact (Option.some.inj e).symm
  | x :: l, m, vs, b, p, q, e => by
    obtain ⟨v, us, rfl, a, r⟩ := p.cons_inv
    obtain ⟨y, t, rfl, a', r'⟩ := q.cons_inv'
    obtain ⟨c, d, hc, hd, rfl⟩ := both_some (show both (f x y) (eqsL f l t) = some b from e)
    rw [hf x y v c a a' hc, eqsL_self hf r r' hd]
    rfl
theorem eqN_self : ∀ (n : Nat) {x y : PV} {v : Value} {b : Bool} {ok' : Addr → Prop}, VRep h ok x v → VRep h ok' y v → eqN n x y = some b → b = true
  | 0, _, _, _, _, _, _, _, e => noS e
  | n + 1, x, y, v, b, ok', p, q, e => by
    have hs := eqN_is e
    clear e
    induction hs with
    | nn => rfl
    | bb a c => rw [p.bool_inv] at q; rw [Value.bool.inj q.bool_inv]; exact beq_self_eq_true _
    | ii a c => obtain ⟨_, e1⟩ := p.int_inv; obtain ⟨_, e2⟩ := q.int_inv; rw [(Value.int.inj (e1.symm.trans e2)).1]; exact beq_self_eq_true _
    | ss a c => obtain ⟨_, _, e1, h1⟩ := p.str_inv; obtain ⟨_, _, e2, h2⟩ := q.str_inv; rw [← h1, ← h2, (Value.str.inj (e1.symm.trans e2)).1]; exact beq_self_eq_true _
    | tt h =>
      obtain ⟨_, _, e1, hl, al⟩ := p.tup_inv
      obtain ⟨_, _, e2, hl', al'⟩ := q.tup_inv
      rw [← Value.ref.inj (e1.symm.trans e2)] at hl'
      rw [← PlainTup.inj hl hl'] at al'
      exact eqsL_self (fun x y v b a a' q => eqN_self n a a' q) al al' h
    | ll h =>
      obtain ⟨_, its, e1, _, ⟨k, h1⟩, al⟩ := p.list_inv
      obtain ⟨_, its2, e2, _, ⟨k', h2⟩, al'⟩ := q.list_inv
      rw [← Value.ref.inj (e1.symm.trans e2), h1] at h2
      have ei : its = its2 := by cases h2; rfl
      rw [← ei] at al'
      rw [if_pos (beq_iff_eq.mpr (al.length.trans al'.length.symm))] at h
      exact eqsL_self (fun x y v b a a' q => eqN_self n a a' q) al al' h
    | ns a => obtain ⟨_, _, e, _⟩ := q.str_inv; cases p.none_inv.symm.trans e
    | sn a => obtain ⟨_, _, e, _⟩ := p.str_inv; cases q.none_inv.symm.trans e
    | ni a => obtain ⟨_, e⟩ := q.int_inv; cases p.none_inv.symm.trans e
    | on a => obtain ⟨_, e⟩ := p.int_inv; cases q.none_inv.symm.trans e
end
section
variable {ok ok' : Addr → Prop} {A : Around} {s : Shared}
theorem eqsL_get {f : PV → PV → Option Bool} : ∀ {l m : List PV} {b : Bool}, eqsL f l m = some b →
    ∃ e : Nat → Bool, (∀ j x y, l[j]? = some x → m[j]? = some y → f x y = some (e j)) ∧ b = ((List.range (min l.length m.length)).all e && l.length == m.length)
  | [], [], b, h => ⟨fun _ => true, fun j x y q => noS q, (Option.some.inj h).symm⟩
  | [], _ :: _, b, h => ⟨fun _ => true, fun j x y q => noS q, by cases (show some false = some b from h); simp⟩
  | _ :: _, [], b, h => ⟨fun _ => true, fun j x y _ q => noS q, by cases (show some false = some b from h); simp⟩
  | x :: r, y :: t, b, h => by
    obtain ⟨c, d, hc, hd, rfl⟩ := both_some (show both (f x y) (eqsL f r t) = some b from h)
    obtain ⟨e, he, hb⟩ := eqsL_get hd
    refine ⟨fun j => match j with | 0 => c | j + 1 => e j, ?_, ?_⟩
    · intro j u v hu hv
      cases j with
      | zero => cases hu; cases hv; exact hc
      | succ j => exact he j u v hu hv
    · have hmin : min (x :: r).length (y :: t).length = min r.length t.length + 1 := Nat.add_min_add_right r.length t.length 1
      rw [hmin, List.range_succ_eq_map, List.all_cons, List.all_map, hb]
      have : ((x :: r).length == (y :: t).length) = (r.length == t.length) := by
        show ((r.length + 1) == (t.length + 1)) = _
        rw [Bool.eq_iff_iff]; simp
      rw [this, Bool.and_assoc]
      rfl
theorem pairs_eqAt {n : Nat} {f : PV → PV → Option Bool} {l m : List PV} {its its2 : Array Value} {e : Nat → Bool}
    (hl : VAll s.heap ok l its.toList) (hm : VAll s.heap ok' m its2.toList)
    (he : ∀ j x y, l[j]? = some x → m[j]? = some y → f x y = some (e j))
    (ih : ∀ {x y : PV} {u v : Value} {b : Bool}, VRep s.heap ok x u → VRep s.heap ok' y v → f x y = some b → EqAt A s u v b) :
    ∀ j (h1 : j < its.size) (h2 : j < its2.size), EqAt A s its[j] its2[j] (e j) := by
  intro j h1 h2
  obtain ⟨x, hx, rx⟩ := hl.get' (i := j) (v := its[j]) (by simp [h1])
  obtain ⟨y, hy, ry⟩ := hm.get' (i := j) (v := its2[j]) (by simp [h2])
  exact ih rx ry (he j x y hx hy)
theorem eq_sound : ∀ (n : Nat) {A : Around} {x y : PV} {u v : Value} {b : Bool}, A.units + n < cLine → VRep s.heap ok x u → VRep s.heap ok' y v → eqN n x y = some b → EqAt A s u v b ∧ RcAt A s u v b
  | 0, _, _, _, _, _, _, _, _, _, e => noS e
  | n + 1, A, x, y, u, v, b, hu, p, q, e => by
    have ih : ∀ {x y : PV} {u v : Value} {b : Bool}, VRep s.heap ok x u → VRep s.heap ok' y v → eqN n x y = some b → EqAt A.in1 s u v b :=
      fun p q e => (eq_sound n (A := A.in1) (by show A.units + 1 + n < cLine; (first | with_reducible exact Nat.le_trans (by assumption) (by decide) | lia | omega)) p q e).1
    have key : RcAt A s u v b ∧ (EqAt A s u v b ∨ ∃ l c, u = .ref l ∧ v = .ref c) := by
      have hs := eqN_is e
      clear e
      induction hs with
      | nn => rw [p.none_inv, q.none_inv]; exact ⟨RcAt.none_none, .inl (EqAt.same _)⟩
      | bb a c => rw [p.bool_inv, q.bool_inv]; exact ⟨RcAt.bool_bool a c, .inl (EqAt.bool_bool a c)⟩
      | ii a c => obtain ⟨t, e1⟩ := p.int_inv; obtain ⟨t', e2⟩ := q.int_inv; rw [e1, e2]; exact ⟨RcAt.int_int a t c t', .inl (EqAt.int_int a t c t')⟩
      | ss a c =>
        obtain ⟨a', t, e1, h1⟩ := p.str_inv
        obtain ⟨c', t', e2, h2⟩ := q.str_inv
        rw [e1, e2, ← h1, ← h2, str_beq]
        exact ⟨RcAt.str_str a' t c' t', .inl (EqAt.str_str a' t c' t')⟩
      | tt h =>
        obtain ⟨a, its, e1, hl, al⟩ := p.tup_inv
        obtain ⟨c, its2, e2, hm, am⟩ := q.tup_inv
        obtain ⟨f, hf, hb⟩ := eqsL_get h
        refine ⟨?_, .inr ⟨a, c, e1, e2⟩⟩
        rw [e1, e2, hb, al.length, am.length]
        exact RcAt.tuples (A := A) (e := f) hl.isTuple hm.isTuple (by (first | with_reducible exact Nat.le_trans (by assumption) (by decide) | lia | omega)) (pairs_eqAt (A := A.in1) (n := n) al am hf ih)
      | ll h =>
        obtain ⟨a, its, e1, o, hl, al⟩ := p.list_inv
        obtain ⟨c, its2, e2, o', hm, am⟩ := q.list_inv
        refine ⟨?_, .inr ⟨a, c, e1, e2⟩⟩
        rw [e1, e2]
        have z1 : _ = its.size := al.length
        have z2 : _ = its2.size := am.length
        split at h
        · rename_i hlen
          obtain ⟨f, hf, hb⟩ := eqsL_get h
          have hlen := eq_of_beq hlen
          rw [hb, ← hlen, Nat.min_self, z1, beq_self_eq_true, Bool.and_true]
          exact RcAt.lists (A := A) (e := f) hl.isList hm.isList (by (first | with_reducible exact Nat.le_trans (by assumption) (by decide) | lia | omega)) (by (first | with_reducible exact Nat.le_trans (by assumption) (by decide) | lia | omega)) (pairs_eqAt (A := A.in1) (n := n) al am hf ih)
        · rename_i hlen
          rw [← Option.some.inj h]
          exact RcAt.lists_lengths hl.isList hm.isList (by rw [z1, z2] at hlen; simpa using hlen) (by (first | with_reducible exact Nat.le_trans (by assumption) (by decide) | lia | omega))
      | ns x => obtain ⟨x, t, e2, _⟩ := q.str_inv; rw [p.none_inv, e2]; exact ⟨RcAt.none_str x t, .inl (EqAt.none_str x t)⟩
      | sn x => obtain ⟨x, t, e2, _⟩ := p.str_inv; rw [q.none_inv, e2]; exact ⟨RcAt.str_none x t, .inl (EqAt.str_none x t)⟩
      | ni i => obtain ⟨t, e2⟩ := q.int_inv; rw [p.none_inv, e2]; exact ⟨RcAt.none_int i t, .inl (EqAt.none_int i t)⟩
      | on i => obtain ⟨t, e2⟩ := p.int_inv; rw [q.none_inv, e2]; exact ⟨RcAt.int_none i t, .inl (EqAt.int_none i t)⟩
    refine ⟨key.2.elim id fun ⟨l, c, e1, e2⟩ => ?_, key.1⟩
    by_cases hlc : l = c
    · have huv : u = v := e1.trans ((congrArg Value.ref hlc).trans e2.symm)
      rw [huv] at p ⊢
      rw [eqN_self (n + 1) p q e]
      exact EqAt.same v
    · have hr := key.1
      rw [e1, e2] at hr ⊢
      exact EqAt.of_refs hlc hr
end
end Mine
namespace Mine
open PySem PySem.Calls PyProof.Rows PySem.W PySem.SeqAt
open AutoSeq1 (wpAny_loadPart')
open MeetsSeq MeetsSeq2 MeetsSeq3 SeqRoads2
section
variable {ok ok' : Addr → Prop} {A : Around} {s : Shared}
theorem ne_sound : ∀ (n : Nat) {A : Around} {x y : PV} {u v : Value} {b : Bool}, A.units + n < cLine → VRep s.heap ok x u → VRep s.heap ok' y v → eqN n x y = some b → RcNeAt A s u v (!b)
  | 0, _, _, _, _, _, _, _, _, _, e => noS e
  | n + 1, A, x, y, u, v, b, hu, p, q, e => by
    have ih : ∀ {x y : PV} {u v : Value} {b : Bool}, VRep s.heap ok x u → VRep s.heap ok' y v → eqN n x y = some b → EqAt A.in1 s u v b :=
      fun p q e => (eq_sound n (A := A.in1) (by show A.units + 1 + n < cLine; (first | with_reducible exact Nat.le_trans (by assumption) (by decide) | lia | omega)) p q e).1
    cases eqN_is e with
    | nn => obtain rfl := p.none_inv; obtain rfl := q.none_inv; exact RcNeAt.none_none
    | bb a c => obtain rfl := p.bool_inv; obtain rfl := q.bool_inv; exact RcNeAt.bool_bool a c
    | ii a c => obtain ⟨t, rfl⟩ := p.int_inv; obtain ⟨t', rfl⟩ := q.int_inv; exact RcNeAt.int_int a t c t'
    | ss a c =>
      obtain ⟨a, t, rfl, rfl⟩ := p.str_inv
      obtain ⟨c, t', rfl, rfl⟩ := q.str_inv
      rw [str_beq]
      exact RcNeAt.str_str a t c t'
    | tt h =>
      obtain ⟨a, its, rfl, hl, al⟩ := p.tup_inv
      obtain ⟨c, its2, rfl, hm, am⟩ := q.tup_inv
      obtain ⟨f, hf, hb⟩ := eqsL_get h
      have := RcNeAt.tuples (A := A) (e := f) hl.isTuple hm.isTuple (by (first | with_reducible exact Nat.le_trans (by assumption) (by decide) | lia | omega)) (pairs_eqAt (A := A.in1) (n := n) al am hf ih)
      rw [hb, al.length, am.length]
      exact this
    | ll h =>
      obtain ⟨a, its, rfl, o, hl, al⟩ := p.list_inv
      obtain ⟨c, its2, rfl, o', hm, am⟩ := q.list_inv
      have e1 : _ = its.size := al.length
      have e2 : _ = its2.size := am.length
      split at h
      · rename_i hlen
        obtain ⟨f, hf, hb⟩ := eqsL_get h
        have hlen := eq_of_beq hlen
        have := RcNeAt.lists (A := A) (e := f) hl.isList hm.isList (by (first | with_reducible exact Nat.le_trans (by assumption) (by decide) | lia | omega)) (by (first | with_reducible exact Nat.le_trans (by assumption) (by decide) | lia | omega)) (pairs_eqAt (A := A.in1) (n := n) al am hf ih)
        rw [hb, ← hlen, Nat.min_self, e1, beq_self_eq_true, Bool.and_true]
        exact this
      · rename_i hlen
        cases h
        exact RcNeAt.lists_lengths hl.isList hm.isList (by rw [e1, e2] at hlen; simpa using hlen) (by (first | with_reducible exact Nat.le_trans (by assumption) (by decide) | lia | omega))
    | ns x => obtain rfl := p.none_inv; obtain ⟨x, t, rfl, _⟩ := q.str_inv; exact RcNeAt.none_str x t
    | sn x => obtain rfl := q.none_inv; obtain ⟨x, t, rfl, _⟩ := p.str_inv; exact RcNeAt.str_none x t
    | ni i => obtain rfl := p.none_inv; obtain ⟨t, rfl⟩ := q.int_inv; exact RcNeAt.none_int i t
    | on i => obtain rfl := q.none_inv; obtain ⟨t, rfl⟩ := p.int_inv; exact RcNeAt.int_none i t
noncomputable def LtAt (A : Around) (s : Shared) (y x : Value) (b : Bool) : Prop :=
  ∀ (prog : Program) (w : World) (E : Value → Shared → Prop) (Q : Value → Shared → Prop), Q (.bool b) s → wpAny (model prog w) A (richCompare .Lt y x) Q E s
inductive Lex (A : Around) (s : Shared) : List Value → List Value → Bool → Prop
  | done : Lex A s [] [] false
  | short {y : Value} {ys : List Value} : Lex A s [] (y :: ys) true
  | long {x : Value} {xs : List Value} : Lex A s (x :: xs) [] false
  | same {x y : Value} {xs ys : List Value} {b : Bool} (h : EqAt A.in1 s x y true) (r : Lex A s xs ys b) : Lex A s (x :: xs) (y :: ys) b
  | other {x y : Value} {xs ys : List Value} {b : Bool} (h : EqAt A.in1 s x y false) (l : LtAt A.in1 s x y b) : Lex A s (x :: xs) (y :: ys) b
theorem tuple_ltAt (l b : Addr) (items items2 : Array Value) (n n2 : Nat) (dd dd2 : Option Addr) (sl sl2 : Array (Option Value)) (c : Bool) :
    Meets (Builtin.«tuple.__lt__» ⟨[.ref l, .ref b], []⟩)
      (fun A R s => s.heap.get? l = some { cls := .type "tuple", dict := dd, data := .seq items n, slots := sl } ∧ s.heap.get? b = some { cls := .type "tuple", dict := dd2, data := .seq items2 n2, slots := sl2 } ∧
        Lex A s items.toList items2.toList c ∧ R (.ok (.ret (.bool c))) s) :=
  .of_wp fun prog w A R s h => by
    obtain ⟨hp, g, d, tk, os⟩ := s; obtain ⟨hl, hb, he, h⟩ := h
    have f2 := AutoSeq1.sub_tuple_tuple
    wp_walk using wpAny_loadPart' hl, wpAny_loadPart' hb, wpAny_forIn_list _ (fun rest b s' => b.1 = none ∧ s' = ⟨hp, g, d, tk, os⟩ ∧ ∃ xs ys, rest = xs.zip ys ∧ Lex A ⟨hp, g, d, tk, os⟩ xs ys c ∧
      (xs.length < ys.length ↔ items.size < items2.size)) _
    case turn =>
      rintro ⟨y, x⟩ rest b s' ⟨hb', rfl, xs, ys, hz, hL, hn⟩
      cases hL with
      | done => cases hz
      | short => cases hz
      | long => cases hz
      | same hq r =>
        simp only [List.zip_cons_cons, List.cons.injEq, Prod.mk.injEq] at hz
        obtain ⟨⟨rfl, rfl⟩, rfl⟩ := hz
        refine wpAny_bind (hq prog w _ _ ?_)
        wp_walk
        exact ⟨rfl, rfl, _, _, rfl, r, by simpa using hn⟩
      | other hq lt =>
        simp only [List.zip_cons_cons, List.cons.injEq, Prod.mk.injEq] at hz
        obtain ⟨⟨rfl, rfl⟩, rfl⟩ := hz
        refine wpAny_bind (hq prog w _ _ ?_)
        simp only [Bool.not_false, if_true]
        refine wpAny_bind (wpAny_rule ?_)
        refine wpAny_bind (lt prog w _ _ ?_)
        wp_walk
        exact ⟨_, rfl, h⟩
    case fin =>
      rintro ⟨b1, b2⟩ s' ⟨hb', rfl, xs, ys, hz, hL, hn⟩
      simp only at hb'
      subst hb'
      have hc : c = decide (items.size < items2.size) := by
        cases hL with
        | done => simp at hn; simp; omega
        | short => simp at hn; simp [hn]
        | long => simp at hn; simp; omega
        | same => cases hz
        | other => cases hz
      wp_walk
      exact ⟨_, rfl, by simpa [Builtin.Tuple.tupleCompareSizes, ← hc] using h⟩
    case h =>
      exact ⟨rfl, rfl, _, _, rfl, he, by simp⟩
theorem natsLt_eq : ∀ a b : List Nat, natsLt a b = decide (a < b)
  | [], [] => by simp [natsLt]
  | x :: r, [] => by simp [natsLt]
  | [], _ :: _ => by simp [natsLt]
  | x :: r, y :: t => by
    simp only [natsLt]
    by_cases h : x < y
    · simp [h, List.cons_lt_cons_iff]
    · by_cases h2 : x = y
      · subst h2
        simp [List.cons_lt_cons_iff, natsLt_eq r t]
      · simp [h, h2, List.cons_lt_cons_iff]
theorem lt_tupleAt {l b : Addr} {items items2 : Array Value} {c : Bool} (hl : s.heap.IsTuple l items) (hb : s.heap.IsTuple b items2) (hu : A.units < cLine)
    (he : Lex A s items.toList items2.toList c) : LtAt A s (.ref l) (.ref b) c := fun prog w E Q h => by
  obtain ⟨⟨cls, dd, data, sl⟩, ho, hc, n, hd⟩ := id hl
  obtain ⟨⟨cls2, dd2, data2, sl2⟩, ho2, hc2, n2, hd2⟩ := id hb
  simp only at hc hd hc2 hd2
  subst hc hd hc2 hd2
  exact richCompare_meets_room (op := .Lt) ⟨_, ho, rfl⟩ ⟨_, ho2, rfl⟩ F.slot_tuple_lt F.entry_tuple_lt (F.args_tuple_lt_2 _ _) (tuple_ltAt l b items items2 n n2 dd dd2 sl sl2 c)
    ⟨ho, ho2, he, show Value.bool c ≠ Value.notImplemented ∧ Q (.bool c) s from ⟨(fun x => nomatch x), h⟩⟩ hu
theorem lex_of {n : Nat} (hu : A.units + 1 + n < cLine) (ih : ∀ {x y : PV} {u v : Value} {b : Bool}, VRep s.heap ok x u → VRep s.heap ok' y v → ltN n x y = some b → LtAt A.in1 s u v b) :
    ∀ {l m : List PV} {us vs : List Value} {b : Bool}, VAll s.heap ok l us → VAll s.heap ok' m vs → ltsL (eqN n) (ltN n) l m = some b → Lex A s us vs b
  | [], m, us, vs, b, p, q, e => by
    obtain rfl := p.nil_inv
    cases m with
    | nil => obtain rfl := q.nil_inv; cases (show some false = some b from e); exact .done
    | cons y m => obtain ⟨_, _, rfl, _, _⟩ := q.cons_inv; cases (show some true = some b from e); exact .short
  | x :: l, m, us, vs, b, p, q, e => by
    obtain ⟨u, us, rfl, p, r⟩ := p.cons_inv
    cases m with
    | nil => obtain rfl := q.nil_inv; cases (show some false = some b from e); exact .long
    | cons y m =>
      obtain ⟨v, vs, rfl, q, t⟩ := q.cons_inv
      have e : ltStep (eqN n x y) (ltN n x y) (ltsL (eqN n) (ltN n) l m) = some b := e
      cases h : eqN n x y with
      | none => rw [h] at e; exact noS e
      | some c =>
        rw [h] at e
        have := (eq_sound n (A := A.in1) hu p q h).1
        cases c with
        | true => exact .same this (lex_of hu ih r t e)
        | false => exact .other this (ih p q e)
theorem lt_sound : ∀ (n : Nat) {A : Around} {x y : PV} {u v : Value} {b : Bool}, A.units + n < cLine → VRep s.heap ok x u → VRep s.heap ok' y v → ltN n x y = some b → LtAt A s u v b
  | 0, _, _, _, _, _, _, _, _, _, e => noS e
  | n + 1, A, x, y, u, v, b, hu, p, q, e => by
    cases x with
    | int a =>
      cases y with
      | int c =>
        obtain ⟨t, rfl⟩ := p.int_inv; obtain ⟨t', rfl⟩ := q.int_inv
        cases (show some (decide (a < c)) = some b from e)
        exact fun prog w E Q h => wpAny_lt_int h
      | _ => exact noS e
    | str a =>
      cases y with
      | str c =>
        obtain ⟨a, t, rfl, rfl⟩ := p.str_inv; obtain ⟨c, t', rfl, rfl⟩ := q.str_inv
        cases (show some (natsLt _ _) = some b from e)
        rw [natsLt_eq]
        exact fun prog w E Q h => PyProof.Rows.lt_str h
      | _ => exact noS e
    | _ => exact noS e
end
end Mine
namespace Mine
open PySem PySem.Calls PyProof.Rows PySem.W PySem.SeqAt
open AutoSeq1 (wpAny_loadPart')
open MeetsSeq MeetsSeq2 MeetsSeq3 SeqRoads2
section
variable (A : Around) (s : Shared)
noncomputable def Gets (t : Sem Value) (Ok : (Addr → Prop) → Prop) (v : PV) : Prop :=
  ∀ (E : Value → Shared → Prop) (Q : Value → Shared → Prop),
    (∀ cv h' tk, s.heap.StaysIn h' → (∀ ok, Ok ok → VRep h' ok v cv) → Q cv { s with heap := h', toks := tk }) → wpAny (model prog w) A t Q E s
noncomputable def FreshOk (Ok : (Addr → Prop) → Prop) : Prop := ∀ ok, Ok ok → ∀ b, s.heap.get? b = none → ok b
end
noncomputable def VIt (h : Heap) (ok : Addr → Prop) (x : PV) (v : Value) : Prop := match x with
  | .list l => ∃ a items, v = .ref a ∧ h.PlainList a items ∧ VAll h ok l items.toList
  | x => VRep h ok x v
section
variable {A : Around} {s : Shared} {Ok : (Addr → Prop) → Prop} {h : Heap} {ok ok' : Addr → Prop}
theorem VRep.it {x : PV} {v : Value} (r : VRep h ok x v) : VIt h ok x v := by
  cases r with
  | list o hl a => exact ⟨_, _, rfl, hl, a⟩
  | none => exact .none
  | bool b => exact .bool b
  | int i t => exact .int i t
  | str s t e => exact .str s t e
  | tup hl a => exact .tup hl a
  | dictT xs o hd n e a => exact .dictT xs o hd n e a
  | dictA xs o hd n e a => exact .dictA xs o hd n e a
theorem VRep.it_ok {x : PV} {v : Value} (r : VRep h ok x v) (e : okItems x = true) (hd : ∀ ks vs, x ≠ .dict ks vs) : VIt h ok' x v := by
  cases r with
  | list o hl a => exact ⟨_, _, rfl, hl, imms_any e a⟩
  | none => exact .none
  | bool b => exact .bool b
  | int i t => exact .int i t
  | str s t e' => exact .str s t e'
  | tup hl a => exact .tup hl (imms_any e a)
  | dictT => exact absurd rfl (hd _ _)
  | dictA => exact absurd rfl (hd _ _)
theorem fresh_none (h : Heap) : h.get? h.objs.size = none := by
  cases e : h.get? h.objs.size with
  | none => rfl
  | some o => exact absurd (Heap.lt_size e) (Nat.lt_irrefl _)
theorem stays_push (h : Heap) (o : Obj) : h.StaysIn (h.push o) := fun _ _ e => Heap.get?_push_of_some _ e
theorem stays_refl (h : Heap) : h.StaysIn h := fun _ _ e => e
theorem stays_trans {h₁ h₂ h₃ : Heap} (a : h₁.StaysIn h₂) (b : h₂.StaysIn h₃) : h₁.StaysIn h₃ := fun x o e => b x o (a x o e)
theorem Gets.int {t : Sem Value} {i : Int} (hg : ∀ (E : Value → Shared → Prop) (Q : Value → Shared → Prop), (∀ u tk, Q (.int i u) { s with toks := tk }) → wpAny (model prog w) A t Q E s) : Gets A s t Ok (.int i) :=
  fun E Q h => hg E Q fun u tk => h _ s.heap tk (stays_refl _) fun _ _ => .int i u
theorem Gets.bool {t : Sem Value} {b : Bool} (hg : ∀ (E : Value → Shared → Prop) (Q : Value → Shared → Prop), Q (.bool b) s → wpAny (model prog w) A t Q E s) : Gets A s t Ok (.bool b) :=
  fun E Q h => hg E Q (h _ s.heap s.toks (stays_refl _) fun _ _ => .bool b)
theorem Gets.newList {t : Sem Value} {l : List PV} {items : Array Value} (hf : FreshOk s Ok) (ha : ∀ ok, Ok ok → VAll s.heap ok l items.toList)
    (hg : ∀ (E : Value → Shared → Prop) (Q : Value → Shared → Prop), Q (.ref s.heap.objs.size) { s with heap := s.heap.push { cls := .type "list", data := .seq items } } → wpAny (model prog w) A t Q E s) : Gets A s t Ok (.list l) :=
  fun E Q h => hg E Q (h _ _ s.toks (stays_push _ _) fun ok o => .list (hf ok o _ (fresh_none _)) ⟨0, Heap.get?_push_size _ rfl⟩ ((ha ok o).stays (stays_push _ _) fun _ x => x))
theorem szOk_le {n : Nat} (h : szOk n = true) : n ≤ sizeLine := by
  have : n ≤ 1000000 := by simpa [szOk] using h
  rw [sizeLine_eq]; (first | with_reducible exact Nat.le_trans (by assumption) (by decide) | lia | omega)
theorem VIt.lists {l : List PV} {v : Value} (hT : Ok fun _ => True) (r : ∀ ok, Ok ok → VIt h ok (.list l) v) :
    ∃ a items, v = .ref a ∧ h.PlainList a items ∧ ∀ ok, Ok ok → VAll h ok l items.toList := by
  obtain ⟨a, items, rfl, hl, _⟩ := r _ hT
  refine ⟨a, items, rfl, hl, fun ok o => ?_⟩
  obtain ⟨a', items', e, hl', ha'⟩ := r ok o
  cases e
  obtain ⟨n, e1⟩ := hl
  obtain ⟨n', e2⟩ := hl'
  rw [e1] at e2; cases e2
  exact ha'
theorem VIt.tups {l : List PV} {v : Value} (hT : Ok fun _ => True) (r : ∀ ok, Ok ok → VIt h ok (.tup l) v) :
    ∃ a items, v = .ref a ∧ PlainTup h a items ∧ ∀ ok, Ok ok → VAll h ok l items.toList := by
  cases r _ hT with
  | @tup _ a items hl _ =>
    refine ⟨a, items, rfl, hl, fun ok o => ?_⟩
    cases r ok o with
    | tup hl' ha' =>
      have := PlainTup.inj hl hl'
      subst this
      exact ha'
theorem smallI_bounds {a : Int} (h : smallI a = true) : -(2 ^ 62 : Int) < a ∧ a < 2 ^ 62 := by
  simpa [smallI] using h
theorem intBits_small {a : Int} (h : smallI a = true) : Builtin.Int.intBits a ≤ 64 := by
  have hb := smallI_bounds h
  have hz : a.natAbs < 2 ^ 62 := by (first | with_reducible exact Nat.le_trans (by assumption) (by decide) | lia | omega)
  unfold Builtin.Int.intBits
  split
  · (first | with_reducible exact Nat.le_trans (by assumption) (by decide) | lia | omega)
  · rename_i hne
    have hne' : a ≠ 0 := by simpa using hne
    have : a.natAbs.log2 < 62 := (Nat.log2_lt (by (first | with_reducible exact Nat.le_trans (by assumption) (by decide) | lia | omega))).mpr hz
    (first | with_reducible exact Nat.le_trans (by assumption) (by decide) | lia | omega)
theorem noPylong {a b : Int} (h : smallI b = true) : Builtin.divisionGoesByPylong a b = false := by
  have hb := smallI_bounds h
  unfold Builtin.divisionGoesByPylong
  have hz : b.natAbs < 2 ^ 62 := by (first | with_reducible exact Nat.le_trans (by assumption) (by decide) | lia | omega)
  have hd : (if b == 0 then 0 else b.natAbs.log2 / 30 + 1) ≤ 300 := by
    split
    · (first | with_reducible exact Nat.le_trans (by assumption) (by decide) | lia | omega)
    · rename_i hne
      have hne' : b ≠ 0 := by simpa using hne
      have : b.natAbs.log2 < 62 := (Nat.log2_lt (by (first | with_reducible exact Nat.le_trans (by assumption) (by decide) | lia | omega))).mpr hz
      (first | with_reducible exact Nat.le_trans (by assumption) (by decide) | lia | omega)
  simp only [Bool.and_eq_false_iff, decide_eq_false_iff_not]
  exact .inl (by (first | with_reducible exact Nat.le_trans (by assumption) (by decide) | lia | omega))
theorem intPs_some {a b : PV} {f : Int → Int → Option PV} {v : PV} (e : intPs a b f = some v) : ∃ i j, a = .int i ∧ b = .int j ∧ f i j = some v := by
  obtain ⟨i, hi, e⟩ := bnd e
  obtain ⟨j, hj, e⟩ := bnd e
  exact ⟨i, j, intP_eq hi, intP_eq hj, e⟩
theorem add_strs {l m : List Nat} {ca cb : Value} (hz : szOk (l.length + m.length) = true) (ra : VRep s.heap (fun _ => True) (.str l) ca) (rb : VRep s.heap (fun _ => True) (.str m) cb) : Gets A s (binaryOp .Add ca cb) Ok (.str (l ++ m)) := by
  obtain ⟨x, t, rfl, rfl⟩ := ra.str_inv
  obtain ⟨y, u, rfl, rfl⟩ := rb.str_inv
  have hz' := szOk_le hz
  intro E Q q
  refine PySem.P.add_str ?_
  by_cases h1 : (x.length == 0) = true
  · rw [if_pos h1]
    have hx : x.cps.toList = [] := by
      have : x.cps.size = 0 := by simpa [PySem.Str.length] using h1
      simpa using this
    refine q _ s.heap s.toks (stays_refl _) fun ok _ => ?_
    rw [hx, List.nil_append]
    exact .str y u rfl
  · rw [if_neg h1]
    by_cases h2 : (y.length == 0) = true
    · rw [if_pos h2]
      have hy : y.cps.toList = [] := by
        have : y.cps.size = 0 := by simpa [PySem.Str.length] using h2
        simpa using this
      refine q _ s.heap s.toks (stays_refl _) fun ok _ => ?_
      rw [hy, List.append_nil]
      exact .str x t rfl
    · rw [if_neg h2]
      have hlen : (x ++ y).length ≤ sizeLine := by
        rw [PySem.Str.length_append]
        simpa [PySem.Str.length] using hz'
      refine ⟨hlen, q _ s.heap _ (stays_refl _) fun ok _ => .str (x ++ y) _ ?_⟩
      simp [PySem.Str.cps_append]
theorem add_lists {l m : List PV} {ca cb : Value} (hT : Ok fun _ => True) (hf : FreshOk s Ok) (hz : szOk (l.length + m.length) = true)
    (ra : ∀ ok, Ok ok → VIt s.heap ok (.list l) ca) (rb : ∀ ok, Ok ok → VIt s.heap ok (.list m) cb) : Gets A s (binaryOp .Add ca cb) Ok (.list (l ++ m)) := by
  obtain ⟨la, its, rfl, ⟨n, hl⟩, a1⟩ := VIt.lists hT ra
  obtain ⟨lb, its2, rfl, ⟨n2, hl2⟩, a2⟩ := VIt.lists hT rb
  have hz' := szOk_le hz
  have e1 : l.length = its.size := (a1 _ hT).length
  have e2 : m.length = its2.size := (a2 _ hT).length
  refine .newList (items := its ++ its2) hf (fun ok o => by rw [Array.toList_append]; exact (a1 ok o).append (a2 ok o)) fun E Q q => ?_
  exact PySem.P.add_list hl hl2 q (by rw [e1, e2] at hz'; exact hz')
theorem add_sound {a b v : PV} {ca cb : Value} (hT : Ok fun _ => True) (hf : FreshOk s Ok) (e : addP a b = some v)
    (ra : ∀ ok, Ok ok → VIt s.heap ok a ca) (rb : ∀ ok, Ok ok → VIt s.heap ok b cb) : Gets A s (binaryOp .Add ca cb) Ok v := by
  cases a with
  | int i =>
    obtain ⟨j, hj, e⟩ := bnd (show (intP b).bind (fun j => some (PV.int (i + j))) = some v from e)
    obtain rfl := intP_eq hj
    obtain ⟨t, rfl⟩ := VRep.int_inv (ra _ hT); obtain ⟨u, rfl⟩ := VRep.int_inv (rb _ hT)
    cases e
    exact .int fun E Q q => PyProof.Rows.add_int (q _ _)
  | str l =>
    obtain ⟨m, hm, e⟩ := bnd (show (strP b).bind (fun m => if szOk (l.length + m.length) = true then some (PV.str (l ++ m)) else none) = some v from e)
    obtain rfl := strP_eq hm
    obtain ⟨hz, rfl⟩ := ifS e
    exact add_strs hz (ra _ hT) (rb _ hT)
  | list l =>
    obtain ⟨m, hm, e⟩ := bnd (show (listL b).bind (fun m => if szOk (l.length + m.length) = true then some (PV.list (l ++ m)) else none) = some v from e)
    obtain rfl := listL_eq hm
    obtain ⟨hz, rfl⟩ := ifS e
    exact add_lists hT hf hz ra rb
  | _ => exact noS e
theorem mul_sound {a b v : PV} {ca cb : Value} (hT : Ok fun _ => True) (hf : FreshOk s Ok) (e : mulP a b = some v)
    (ra : ∀ ok, Ok ok → VIt s.heap ok a ca) (rb : ∀ ok, Ok ok → VIt s.heap ok b cb) : Gets A s (binaryOp .Mult ca cb) Ok v := by
  cases a with
  | int i =>
    obtain ⟨j, hj, e⟩ := bnd (show (intP b).bind (fun j => if smallI i = true then some (PV.int (i * j)) else none) = some v from e)
    obtain rfl := intP_eq hj
    obtain ⟨t, rfl⟩ := VRep.int_inv (ra _ hT); obtain ⟨u, rfl⟩ := VRep.int_inv (rb _ hT)
    obtain ⟨hs, rfl⟩ := ifS e
    exact .int fun E Q q => PyProof.Rows.mul_int (q _ _) (IntMulOk.of_left (intBits_small hs))
  | _ => exact noS e
theorem bin_sound {op : Operator} {a b v : PV} {ca cb : Value} (hT : Ok fun _ => True) (hf : FreshOk s Ok) (e : evalBin op a b = some v)
    (ra : ∀ ok, Ok ok → VIt s.heap ok a ca) (rb : ∀ ok, Ok ok → VIt s.heap ok b cb) : Gets A s (binaryOp op ca cb) Ok v := by
  cases op with
  | Add => exact add_sound hT hf e ra rb
  | Mult => exact mul_sound hT hf e ra rb
  | Sub =>
    obtain ⟨i, j, rfl, rfl, e⟩ := intPs_some e
    obtain ⟨t, rfl⟩ := VRep.int_inv (ra _ hT); obtain ⟨u, rfl⟩ := VRep.int_inv (rb _ hT)
    cases e
    exact .int fun E Q q => PyProof.Rows.sub_int (q _ _)
  | FloorDiv =>
    obtain ⟨i, j, rfl, rfl, e⟩ := intPs_some e
    obtain ⟨t, rfl⟩ := VRep.int_inv (ra _ hT); obtain ⟨u, rfl⟩ := VRep.int_inv (rb _ hT)
    obtain ⟨hs, rfl⟩ := ifS e
    obtain ⟨hs, h3⟩ := two hs
    have h2 := of_decide_eq_true (two hs).2
    refine .int fun E Q q => PyProof.Rows.floordiv_int (Int.ne_of_gt h2) ?_ (.inl (noPylong h3))
    rw [Int.fdiv_eq_ediv_of_nonneg _ (Int.le_of_lt h2)]
    exact q s.toks (s.toks + 1)
  | Mod =>
    obtain ⟨i, j, rfl, rfl, e⟩ := intPs_some e
    obtain ⟨t, rfl⟩ := VRep.int_inv (ra _ hT); obtain ⟨u, rfl⟩ := VRep.int_inv (rb _ hT)
    obtain ⟨hs, rfl⟩ := ifS e
    have h2 := of_decide_eq_true hs
    refine .int fun E Q q => PyProof.Rows.mod_int' (Int.ne_of_gt h2) ?_
    rw [Int.fmod_eq_emod_of_nonneg _ (Int.le_of_lt h2)]
    exact q _ _
  | _ => exact noS e
end
end Mine
namespace Mine
open PySem PySem.Calls PyProof.Rows PySem.W PySem.SeqAt
open AutoSeq1 (wpAny_loadPart')
open MeetsSeq MeetsSeq2 MeetsSeq3 SeqRoads2
section
variable {A : Around} {s : Shared} {Ok : (Addr → Prop) → Prop}
theorem subTail {value slice : Expr} {o i : Value} {T id : String} {v : PV} (hT : s.TypeIs o T) (hl : typeLookup (.type T) "__getitem__" = pure (some (.builtin id)))
    (hg : Gets A s (getItem o i) Ok v) : Gets A s (subscriptTail value slice o i) Ok v := by
  intro E Q q
  unfold subscriptTail
  refine wpAny_bind ?_
  rw [getitemInPython_of_ne hT.not_modules]
  refine wpAny_bind (wpAny_specialOf hT hl ?_)
  have fin : wpAny (model prog w) A (subscripted slice false o i) (fun r s₃ => wpAny (model prog w) A (letTemporaryGo value o r >>= fun _ => pure r) Q E s₃) E s := by
    have one : ∀ ops, wpAny (model prog w) A (operate ops (getItem o i)) (fun r s₃ => wpAny (model prog w) A (letTemporaryGo value o r >>= fun _ => pure r) Q E s₃) E s := fun ops =>
      wpAny_operating (hg E _ fun cv h' tk st r => wpAny_bind (wpAny_letTemporaryGo (wpAny_pure (q cv h' tk st r))))
    unfold subscripted
    split
    · exact one _
    · rename_i h; cases h
    · exact one _
  first
    | exact wpAny_pure (wpAny_bind fin)
    | exact wpAny_bind (wpAny_pure (wpAny_bind fin))
    | exact wpAny_bind fin
theorem Gets.have {t : Sem Value} {v : PV} {cv : Value} (r : ∀ ok, Ok ok → VRep s.heap ok v cv) (hg : ∀ (E : Value → Shared → Prop) (Q : Value → Shared → Prop), Q cv s → wpAny (model prog w) A t Q E s) : Gets A s t Ok v :=
  fun E Q q => hg E Q (q cv s.heap s.toks (stays_refl _) r)
theorem Gets.tok {t : Sem Value} {v : PV} {cv : Value} (r : ∀ ok, Ok ok → VRep s.heap ok v cv) (hg : ∀ (E : Value → Shared → Prop) (Q : Value → Shared → Prop), (∀ tk, Q cv { s with toks := tk }) → wpAny (model prog w) A t Q E s) : Gets A s t Ok v :=
  fun E Q q => hg E Q fun tk => q cv s.heap tk (stays_refl _) r
theorem getAll {l : List PV} {vs : List Value} (hT : Ok fun _ => True) (r : ∀ ok, Ok ok → VAll s.heap ok l vs) {i : Nat} {x : PV} (e : l[i]? = some x) :
    ∃ v, vs[i]? = some v ∧ ∀ ok, Ok ok → VRep s.heap ok x v := by
  obtain ⟨v, hv, _⟩ := (r _ hT).get e
  refine ⟨v, hv, fun ok o => ?_⟩
  obtain ⟨v', hv', hr⟩ := (r ok o).get e
  rw [hv] at hv'; cases hv'
  exact hr
theorem nth_some {l : List PV} {i : Int} {x : PV} (e : nth l i = some x) : ∃ k, seqIndex? i l.length = some k ∧ l[k]? = some x := by
  unfold nth at e
  cases h : seqIndex? i l.length with
  | none => rw [h] at e; cases e
  | some k => rw [h] at e; exact ⟨k, rfl, e⟩
theorem getItem_list_sound {l : List PV} {i : Int} {x : PV} {c : Value} {t : Tok} (hT : Ok fun _ => True) (hs : smallI i = true) (r : ∀ ok, Ok ok → VIt s.heap ok (.list l) c) (e : nth l i = some x) :
    Gets A s (getItem c (.int i t)) Ok x ∧ s.TypeIs c "list" := by
  obtain ⟨a, items, rfl, hl, ha⟩ := VIt.lists hT r
  have hb := smallI_bounds hs
  obtain ⟨k, hk, hx⟩ := nth_some e
  obtain ⟨v, hv, hr⟩ := getAll hT ha hx
  have hlen := (ha _ hT).length
  simp only [Array.length_toList] at hlen
  refine ⟨.have hr fun E Q q => ?_, hl.isList.typeIs⟩
  unfold seqIndex? at hk
  rw [hlen] at hk
  by_cases h0 : i < 0
  · simp only [if_pos h0] at hk
    split at hk
    · rename_i hh
      cases hk
      simp only [Bool.and_eq_true, decide_eq_true_eq] at hh
      exact wpAny_getItem_list_neg hl.isList h0 (by (first | with_reducible exact Nat.le_trans (by assumption) (by decide) | lia | omega)) (by (first | with_reducible exact Nat.le_trans (by assumption) (by decide) | lia | omega)) (by simpa using hv) q
    · cases hk
  · simp only [if_neg h0] at hk
    split at hk
    · cases hk
      exact wpAny_getItem_list hl.isList (by (first | with_reducible exact Nat.le_trans (by assumption) (by decide) | lia | omega)) (by (first | with_reducible exact Nat.le_trans (by assumption) (by decide) | lia | omega)) (by simpa using hv) q
    · cases hk
theorem getItem_tup_sound {l : List PV} {i : Int} {x : PV} {c : Value} {t : Tok} (hT : Ok fun _ => True) (hs : smallI i = true) (r : ∀ ok, Ok ok → VIt s.heap ok (.tup l) c) (e : nth l i = some x) :
    Gets A s (getItem c (.int i t)) Ok x ∧ s.TypeIs c "tuple" := by
  obtain ⟨a, items, rfl, ⟨n, hl⟩, ha⟩ := VIt.tups hT r
  have hb := smallI_bounds hs
  obtain ⟨k, hk, hx⟩ := nth_some e
  obtain ⟨v, hv, hr⟩ := getAll hT ha hx
  have hlen := (ha _ hT).length
  simp only [Array.length_toList] at hlen
  rw [hlen] at hk
  exact ⟨.have hr fun E Q q => PySem.P.getItem_tuple hl (by (first | with_reducible exact Nat.le_trans (by assumption) (by decide) | lia | omega)) (by (first | with_reducible exact Nat.le_trans (by assumption) (by decide) | lia | omega)) hk (by simpa using hv) q, ⟨_, hl, rfl⟩⟩
theorem getItem_str_sound {l : List Nat} {i : Int} {x : Nat} {c : Value} {t : Tok} (hs : smallI i = true) (r : VRep s.heap (fun _ => True) (.str l) c) (e : nth l i = some x) :
    Gets A s (getItem c (.int i t)) Ok (.str [x]) ∧ s.TypeIs c "str" := by
  cases r with | str y u hy =>
  subst hy
  have hb := smallI_bounds hs
  refine ⟨.tok (cv := .str ⟨#[x]⟩ s.toks) (fun ok _ => .str ⟨#[x]⟩ _ rfl) fun E Q q => ?_, typeIs_str s y u⟩
  refine PySem.P.getItem_str ?_ ?_ (q _)
  · simp only [Bool.or_eq_false_iff, decide_eq_false_iff_not]; constructor <;> (first | with_reducible exact Nat.le_trans (by assumption) (by decide) | lia | omega)
  · unfold nth at e
    simpa [PySem.Str.length] using e
theorem atKey_get {K : Type} [DecidableEq K] : ∀ {xs : List (K × Addr × Value)} {k : K} {f : K → PV} (hf : ∀ a b, f a = f b → a = b) {vs : List PV} {h : Heap} {ok : Addr → Prop} (r : VAll h ok vs (xs.map fun x => x.2.2)) {o : Option PV},
    (∀ a b c, PV.eq (f a) (f b) = some c → (c = true ↔ a = b)) → getD2 (f k) (xs.map fun x => f x.1) vs = some o →
    match o with | some v => ∃ p, atKey xs k = some p ∧ VRep h ok v p.2 | none => atKey xs k = none
  | [], k, f, hf, vs, h, ok, r, o, he, e => by
    cases (show some none = some o from e); rfl
  | (a, p) :: xs, k, f, hf, vs, h, ok, r, o, he, e => by
    cases r with | cons rv rr =>
    simp only [List.map_cons, getD2] at e
    cases hq : PV.eq (f a) (f k) with
    | none => rw [hq] at e; cases e
    | some c =>
      rw [hq] at e
      have hc := he a k c hq
      cases c with
      | true =>
        have hak : a = k := hc.mp rfl
        simp only [List.head?_cons, Option.map_some, Option.some.injEq] at e
        subst e
        exact ⟨p, by simp [atKey, hak], rv⟩
      | false =>
        have hak : ¬ a = k := fun h => by have := hc.mpr h; cases this
        have ih := atKey_get hf rr he e
        have hk' : atKey ((a, p) :: xs) k = atKey xs k := by simp [atKey, hak]
        rw [hk']
        exact ih
theorem eqsL_true {f : PV → PV → Option Bool} (hf : ∀ x y c, f x y = some c → (c = true ↔ x = y)) : ∀ {l m : List PV} {c : Bool}, eqsL f l m = some c → (c = true ↔ l = m)
  | [], [], c, h => by cases (show some true = some c from h); exact ⟨fun _ => rfl, fun _ => rfl⟩
  | [], _ :: _, c, h => by cases (show some false = some c from h); exact ⟨nofun, nofun⟩
  | _ :: _, [], c, h => by cases (show some false = some c from h); exact ⟨nofun, nofun⟩
  | x :: r, y :: t, c, h => by
    obtain ⟨d, d2, q, q2, rfl⟩ := both_some (show both (f x y) (eqsL f r t) = some c from h)
    rw [Bool.and_eq_true, hf x y d q, eqsL_true hf q2, List.cons.injEq]
theorem eqN_true : ∀ (n : Nat) (x y : PV) (c : Bool), eqN n x y = some c → (c = true ↔ x = y)
  | 0, _, _, _, e => noS e
  | n + 1, x, y, c, e => by
    cases eqN_is e with
    | nn => exact ⟨fun _ => rfl, fun _ => rfl⟩
    | bb a b => rw [beq_iff_eq, PV.bool.injEq]
    | ii a b => rw [beq_iff_eq, PV.int.injEq]
    | ss a b => rw [beq_iff_eq, PV.str.injEq]
    | tt h => rw [eqsL_true (eqN_true n) h, PV.tup.injEq]
    | ll h =>
      split at h
      · rw [eqsL_true (eqN_true n) h, PV.list.injEq]
      · rename_i hne
        cases h
        exact ⟨nofun, fun q => by cases q; exact absurd (beq_self_eq_true _) hne⟩
    | _ => exact ⟨nofun, nofun⟩
theorem eq_true {x y : PV} {c : Bool} (e : PV.eq x y = some c) : c = true ↔ x = y := eqN_true 6 x y c e
end
end Mine
namespace Mine
open PySem PySem.Calls PyProof.Rows PySem.W PySem.SeqAt
open AutoSeq1 (wpAny_loadPart')
open MeetsSeq MeetsSeq2 MeetsSeq3 SeqRoads2
section
variable {A : Around} {s : Shared} {Ok : (Addr → Prop) → Prop} {h : Heap}
theorem atomIs_int (i : Int) (t : Tok) : (atomKind).is (.int i) (.int i t) = true := by simp [atomKind, Atom.is, Value.isInt]
theorem atomIs_str (y : Str) (t : Tok) : (atomKind).is (.str y) (.str y t) = true := by simp [atomKind, Atom.is, Value.isStrOf]
theorem items_are : ∀ {l : List PV} {vs : List Value} {ok : Addr → Prop}, l.all isAtom = true → VAll h ok l vs → ∃ ks : List Atom, l = ks.map atomPV ∧ ItemsAre (atomKind) ks vs
  | [], vs, _, _, r => by rw [r.nil_inv]; exact ⟨[], rfl, .nil⟩
  | x :: l, vs, ok, e, r => by
    obtain ⟨v, us, rfl, r1, rr⟩ := r.cons_inv
    obtain ⟨e1, e2⟩ := two (show (isAtom x && l.all isAtom) = true from e)
    obtain ⟨ks, rfl, hk⟩ := items_are e2 rr
    cases x with
    | int i => obtain ⟨t, rfl⟩ := r1.int_inv; exact ⟨.int i :: ks, rfl, .cons (atomIs_int i t) hk⟩
    | str y => obtain ⟨y, t, rfl, rfl⟩ := r1.str_inv; exact ⟨.str y :: ks, rfl, .cons (atomIs_str y t) hk⟩
    | _ => cases e1
theorem as_key {k : PV} {c : Value} {ok : Addr → Prop} (e : keyP k = true) (r : VRep h ok k c) :
    (∃ a, k = atomPV a ∧ (atomKind).is a c = true) ∨ ∃ as x, k = tupPV as ∧ c = .ref x ∧ (tupKind).is h as x := by
  cases k with
  | int i => obtain ⟨t, rfl⟩ := r.int_inv; exact .inl ⟨.int i, rfl, atomIs_int i t⟩
  | str y => obtain ⟨y, t, rfl, rfl⟩ := r.str_inv; exact .inl ⟨.str y, rfl, atomIs_str y t⟩
  | tup l =>
    obtain ⟨x, items, rfl, hl, a⟩ := r.tup_inv
    obtain ⟨ks, rfl, hk⟩ := items_are e a
    obtain ⟨n, hn⟩ := id hl
    exact .inr ⟨ks, _, rfl, rfl, ⟨_, _, n, hn, rfl, rfl, hk⟩, _, hl⟩
  | _ => cases e
theorem eq_atom_tup {a : Atom} {l : List Atom} {c : Bool} : ¬ PV.eq (atomPV a) (tupPV l) = some c := by cases a <;> exact noS
theorem eq_tup_atom {a : Atom} {l : List Atom} {c : Bool} : ¬ PV.eq (tupPV l) (atomPV a) = some c := by cases a <;> exact noS
theorem entries_inj {xs ys : List (List Atom × Addr × Value)} (hx : ∀ x ∈ xs, (tupKind).is h x.1 x.2.1) (hy : ∀ x ∈ ys, (tupKind).is h x.1 x.2.1)
    (e : xs.map (entryOfKey (tupKind)) = ys.map (entryOfKey (tupKind))) : xs = ys := by
  induction xs generalizing ys with
  | nil => cases ys with | nil => rfl | cons _ _ => simp at e
  | cons x xs ih =>
    cases ys with
    | nil => simp at e
    | cons y ys =>
      simp only [List.map_cons, List.cons.injEq] at e
      obtain ⟨e1, e2⟩ := e
      rw [ih (fun z hz => hx z (.tail _ hz)) (fun z hz => hy z (.tail _ hz)) e2]
      have h1 := hx x (.head _)
      have h2 := hy y (.head _)
      obtain ⟨k, a, v⟩ := x
      obtain ⟨k', a', v'⟩ := y
      simp only [entryOfKey, DictEntry.mk.injEq, Value.ref.injEq] at e1
      obtain ⟨_, rfl, rfl⟩ := e1
      have := (tupKind).inj h1 h2
      simp only at this
      rw [this]
theorem pairs_inj {es : List DictEntry} {xs ys : List (Atom × Value)} (hx : Pairs (atomKind) es xs) (hy : Pairs (atomKind) es ys) : xs = ys := by
  induction hx generalizing ys with
  | nil => cases hy; rfl
  | @cons e kv es kvs h1 h2 _ ih =>
    cases hy with
    | @cons _ kv' _ kvs' h1' h2' r' =>
      rw [ih r']
      congr 1
      exact Prod.ext ((atomKind).inj _ _ _ h1 h1') (h2.symm.trans h2')
inductive DView (h : Heap) (Ok : (Addr → Prop) → Prop) (ks vs : List PV) (a : Addr) : Prop
  | T (xs : List (List Atom × Addr × Value)) (hd : h.DictOfH (tupKind) a xs) (e : ks = xs.map fun x => tupPV x.1) (ha : ∀ ok, Ok ok → ok a ∧ VAll h ok vs (xs.map fun x => x.2.2))
  | A (xs : List (Atom × Value)) (hd : h.DictOf (atomKind) a xs) (e : ks = xs.map fun x => atomPV x.1) (ha : ∀ ok, Ok ok → ok a ∧ VAll h ok vs (xs.map fun x => x.2))
theorem dict_emptyTA {a : Addr} (hd : h.DictOfH (tupKind) a []) : h.DictOf (atomKind) a [] := by
  obtain ⟨o, es, ep, h1, h2, h3, h4, h5, h6⟩ := hd
  have : es = #[] := by simpa using h4
  subst this
  exact ⟨o, #[], ep, h1, h2, h3, fun _ he => by simp at he, .nil, List.nodup_nil⟩
theorem dict_emptyAT {a : Addr} (hd : h.DictOf (atomKind) a []) : h.DictOfH (tupKind) a [] := by
  obtain ⟨o, es, ep, h1, h2, h3, h4, h5, h6⟩ := hd
  have : es = #[] := by cases hq : es.toList with | nil => simpa using hq | cons _ _ => rw [hq] at h5; cases h5
  subst this
  exact ⟨o, #[], ep, h1, h2, h3, rfl, fun _ hx => (nomatch hx), List.nodup_nil⟩
theorem dicts {ks vs : List PV} {c : Value} (hT : Ok fun _ => True) (r : ∀ ok, Ok ok → VRep h ok (.dict ks vs) c) :
    ∃ a, c = .ref a ∧ (a == sysModules) = false ∧ DView h Ok ks vs a := by
  cases r _ hT with
  | @dictT _ _ a xs _ hd hds e ha =>
    refine ⟨a, rfl, hds, .T xs hd e fun ok o => ?_⟩
    cases r ok o with
    | dictT ys o' hd' hds' e' ha' =>
      refine ⟨o', ?_⟩
      obtain ⟨ob, es, ep, h1, h2, h3, h4, h5, h6⟩ := hd
      obtain ⟨ob', es', ep', h1', h2', h3', h4', h5', h6'⟩ := hd'
      rw [h1] at h1'; cases h1'
      rw [h3] at h3'; cases h3'
      have := entries_inj h5 h5' (h4.symm.trans h4')
      subst this
      exact ha'
    | dictA ys o' hd' hds' e' ha' =>
      refine ⟨o', ?_⟩
      rw [e] at e'
      cases xs with
      | nil => cases ys with
        | nil => exact ha'
        | cons _ _ => simp at e'
      | cons x xs => cases ys with
        | nil => simp at e'
        | cons y ys =>
          simp only [List.map_cons, List.cons.injEq] at e'
          obtain ⟨e1, _⟩ := e'
          cases hy : y.1 <;> simp [tupPV, atomPV, hy] at e1
  | @dictA _ _ a xs _ hd hds e ha =>
    refine ⟨a, rfl, hds, .A xs hd e fun ok o => ?_⟩
    cases r ok o with
    | dictA ys o' hd' hds' e' ha' =>
      refine ⟨o', ?_⟩
      obtain ⟨ob, es, ep, h1, h2, h3, h4, h5, h6⟩ := hd
      obtain ⟨ob', es', ep', h1', h2', h3', h4', h5', h6'⟩ := hd'
      rw [h1] at h1'; cases h1'
      rw [h3] at h3'; cases h3'
      have := pairs_inj h5 h5'
      subst this
      exact ha'
    | dictT ys o' hd' hds' e' ha' =>
      refine ⟨o', ?_⟩
      rw [e] at e'
      cases xs with
      | nil => cases ys with
        | nil => exact ha'
        | cons _ _ => simp at e'
      | cons x xs => cases ys with
        | nil => simp at e'
        | cons y ys =>
          simp only [List.map_cons, List.cons.injEq] at e'
          obtain ⟨e1, _⟩ := e'
          cases hx : x.1 <;> simp [tupPV, atomPV, hx] at e1
theorem atKey_sound {xs : List (List Atom × Addr × Value)} {k : List Atom} {vs : List PV} {ok : Addr → Prop} (r : VAll h ok vs (xs.map fun x => x.2.2)) {o : Option PV} :
    getD2 (tupPV k) (xs.map fun x => tupPV x.1) vs = some o → match o with | some v => ∃ p, atKey xs k = some p ∧ VRep h ok v p.2 | none => atKey xs k = none :=
  fun e => atKey_get (fun _ _ e => tupPV_inj e) r (fun a b c q => (eq_true q).trans ⟨fun e => tupPV_inj e, fun e => by rw [e]⟩) e
theorem valueAt_sound : ∀ {xs : List (Atom × Value)} {k : Atom} {vs : List PV} {ok : Addr → Prop} (_ : VAll h ok vs (xs.map fun x => x.2)) {o : Option PV},
    getD2 (atomPV k) (xs.map fun x => atomPV x.1) vs = some o → match o with | some v => ∃ p, valueAt xs k = some p ∧ VRep h ok v p | none => valueAt xs k = none
  | [], k, vs, ok, r, o, e => by
    simp [getD2] at e; subst e; rfl
  | (a, p) :: xs, k, vs, ok, r, o, e => by
    cases r with | cons rv rr =>
    simp only [List.map_cons, getD2] at e
    cases hq : PV.eq (atomPV a) (atomPV k) with
    | none => rw [hq] at e; cases e
    | some c =>
      rw [hq] at e
      have hc := (eq_true hq).trans ⟨fun e => atomPV_inj e, fun e => by rw [e]⟩
      cases c with
      | true =>
        have hak : a = k := hc.mp rfl
        simp only [List.head?_cons, Option.map_some, Option.some.injEq] at e
        subst e
        exact ⟨p, by simp [valueAt, hak], rv⟩
      | false =>
        have hak : ¬ a = k := fun h => by have := hc.mpr h; cases this
        have ih := valueAt_sound rr e
        have hk' : valueAt ((a, p) :: xs) k = valueAt xs k := by simp [valueAt, hak]
        rw [hk']
        exact ih
inductive KView (h : Heap) (Ok : (Addr → Prop) → Prop) (k : PV) (c : Value) (ks vs : List PV) (a : Addr) : Prop
  | T (as : List Atom) (x : Addr) (e1 : k = tupPV as) (e2 : c = .ref x) (hk : (tupKind).is h as x) (xs : List (List Atom × Addr × Value)) (hd : h.DictOfH (tupKind) a xs) (e : ks = xs.map fun x => tupPV x.1)
      (ha : ∀ ok, Ok ok → ok a ∧ VAll h ok vs (xs.map fun x => x.2.2))
  | A (k' : Atom) (e1 : k = atomPV k') (hk : (atomKind).is k' c = true) (xs : List (Atom × Value)) (hd : h.DictOf (atomKind) a xs) (e : ks = xs.map fun x => atomPV x.1)
      (ha : ∀ ok, Ok ok → ok a ∧ VAll h ok vs (xs.map fun x => x.2))
theorem kview {k : PV} {c : Value} {ks vs : List PV} {a : Addr} {ok : Addr → Prop} {o : Option PV} (d : DView h Ok ks vs a) (hk : keyP k = true) (r : VRep h ok k c) (e : getD2 k ks vs = some o) : KView h Ok k c ks vs a := by
  rcases as_key hk r with ⟨k', rfl, h1⟩ | ⟨as, x, rfl, rfl, h1⟩
  · cases d with
    | A xs hd e' ha => exact .A k' rfl h1 xs hd e' ha
    | T xs hd e' ha =>
      subst e'
      cases xs with
      | nil => exact .A k' rfl h1 [] (dict_emptyTA hd) rfl ha
      | cons x xs =>
        simp only [List.map_cons, getD2] at e
        cases q : PV.eq (tupPV x.1) (atomPV k') with
        | none => rw [q] at e; cases e
        | some c => exact absurd q eq_tup_atom
  · cases d with
    | T xs hd e' ha => exact .T as x rfl rfl h1 xs hd e' ha
    | A xs hd e' ha =>
      subst e'
      cases xs with
      | nil => exact .T as x rfl rfl h1 [] (dict_emptyAT hd) rfl ha
      | cons y xs =>
        simp only [List.map_cons, getD2] at e
        cases q : PV.eq (atomPV y.1) (tupPV as) with
        | none => rw [q] at e; cases e
        | some c => exact absurd q eq_atom_tup
theorem getItem_dict_sound {k v : PV} {ks vs : List PV} {c ck : Value} {ok : Addr → Prop} (hu : A.units + 1 < cLine) (hT : Ok fun _ => True) (r : ∀ ok, Ok ok → VRep s.heap ok (.dict ks vs) c) (hk : keyP k = true)
    (rk : VRep s.heap ok k ck) (e : getD2 k ks vs = some (some v)) : Gets A s (getItem c ck) Ok v ∧ s.TypeIs c "dict" := by
  obtain ⟨a, rfl, hds, d⟩ := dicts hT r
  cases kview d hk rk e with
  | T as x e1 e2 hk' xs hd e' ha =>
    subst e1; subst e2; subst e'
    obtain ⟨p, hp, _⟩ := atKey_sound (ha _ hT).2 e
    refine ⟨.tok (cv := p.2) (fun ok o => ?_) fun E Q q => wpAny_getItem_heap hu hk' hd hp (q _), hd.typeIs⟩
    obtain ⟨p', hp', hr⟩ := atKey_sound (ha ok o).2 e
    rw [hp] at hp'; cases hp'
    exact hr
  | A k' e1 hk' xs hd e' ha =>
    subst e1; subst e'
    obtain ⟨p, hp, _⟩ := valueAt_sound (ha _ hT).2 e
    refine ⟨.tok (cv := p) (fun ok o => ?_) fun E Q q => wpAny_getItem_of hk' hd.mapOf hp (q _), hd.mapOf.typeIs⟩
    obtain ⟨p', hp', hr⟩ := valueAt_sound (ha ok o).2 e
    rw [hp] at hp'; cases hp'
    exact hr
theorem in_dict_sound {k : PV} {ks vs : List PV} {c ck : Value} {ok : Addr → Prop} {o : Option PV} (hu : A.units + 1 < cLine) (hT : Ok fun _ => True) (r : ∀ ok, Ok ok → VRep s.heap ok (.dict ks vs) c) (hk : keyP k = true)
    (rk : VRep s.heap ok k ck) (e : getD2 k ks vs = some o) : Gets A s (compareOp .In ck c) Ok (.bool o.isSome) := by
  obtain ⟨a, rfl, hds, d⟩ := dicts hT r
  cases kview d hk rk e with
  | T as x e1 e2 hk' xs hd e' ha =>
    subst e1; subst e2; subst e'
    have h1 := atKey_sound (ha _ hT).2 e
    have h2 : (atKey xs as).isSome = o.isSome := by
      cases o with
      | none => simp only at h1; rw [h1]; rfl
      | some v => obtain ⟨p, hp, _⟩ := h1; rw [hp]; rfl
    exact .tok (cv := .bool o.isSome) (fun _ _ => .bool _) fun E Q q => wpAny_in_heap hu hk' hds hd (by rw [h2]; exact q _)
  | A k' e1 hk' xs hd e' ha =>
    subst e1; subst e'
    have h1 := valueAt_sound (ha _ hT).2 e
    have h2 : (valueAt xs k').isSome = o.isSome := by
      cases o with
      | none => simp only at h1; rw [h1]; rfl
      | some v => obtain ⟨p, hp, _⟩ := h1; rw [hp]; rfl
    exact .tok (cv := .bool o.isSome) (fun _ _ => .bool _) fun E Q q => wpAny_in_of hk' hds hd.mapOf (by rw [h2]; exact q _)
end
end Mine
namespace Mine
open PySem PySem.Calls PyProof.Rows PySem.W PySem.SeqAt
open AutoSeq1 (wpAny_loadPart')
open MeetsSeq MeetsSeq2 MeetsSeq3 SeqRoads2
section
variable {A : Around} {s : Shared} {Ok : (Addr → Prop) → Prop} {h : Heap}
theorem clip_le (n : Nat) (i : Int) : clip n i ≤ n := by unfold clip; exact a_clip _ _
theorem VAll.cut {ok : Addr → Prop} {l : List PV} {vs : List Value} (r : VAll h ok l vs) (lo hi : Option Int) : VAll h ok (Mine.cut l lo hi) (Mine.cut vs lo hi) := by
  unfold Mine.cut
  rw [r.length]
  exact (r.drop _).take _
theorem strIdx (lo hi : Option Int) (n : Nat) : Builtin.Str.strSliceIndices lo hi 1 n = (List.range (hi.elim n (clip n) - lo.elim 0 (clip n))).map (lo.elim 0 (clip n) + ·) := by
  have key : Builtin.Str.strSliceIndices lo hi 1 n = sliceRange ((lo.elim 0 (clip n) : Nat) : Int) ((hi.elim n (clip n) : Nat) : Int) 1 := by
    unfold Builtin.Str.strSliceIndices
    have h1 : (1 : Int) > 0 := by omega
    simp only [h1, if_true]
    congr 1
    · cases lo with
      | none => rfl
      | some i => exact (Int.toNat_of_nonneg (Int.le_max_left _ _)).symm
    · cases hi with
      | none => rfl
      | some i => exact (Int.toNat_of_nonneg (Int.le_max_left _ _)).symm
  rw [key, sliceRange_one]
theorem cutStr_sound {l : List Nat} {c : Value} {sl : Addr} {lo hi : Option (Int × Tok)} (hs : s.heap.IsSlice sl lo hi none) (hz : szOk l.length = true) (r : VRep s.heap (fun _ => True) (.str l) c) :
    Gets A s (getItem c (.ref sl)) Ok (.str (cut l (lo.map (·.1)) (hi.map (·.1)))) := by
  cases r with | str y u hy =>
  subst hy
  have hpick : slicePicked y lo hi none = (List.range ((hi.map (·.1)).elim y.length (clip y.length) - (lo.map (·.1)).elim 0 (clip y.length))).map ((lo.map (·.1)).elim 0 (clip y.length) + ·) := by
    unfold slicePicked
    exact strIdx _ _ _
  have hlen : y.cps.toList.length = y.length := by simp [PySem.Str.length]
  have hcut : (slicePicked y lo hi none).filterMap (y.cps[·]?) = cut y.cps.toList (lo.map (·.1)) (hi.map (·.1)) := by
    rw [hpick, pick_run]
    unfold cut
    rw [hlen]
  have hb : (hi.map (·.1)).elim y.length (clip y.length) ≤ y.length := by
    cases hi with
    | none => exact Nat.le_refl _
    | some p => exact clip_le _ _
  intro E Q q
  refine wpAny_getItem_str_slice hs rfl ?_
  unfold sliceMade
  split
  · rename_i hc
    simp only [Bool.and_eq_true, beq_iff_eq] at hc
    have h2 : (slicePicked y lo hi none).length = y.length := hc.2
    have hall : cut y.cps.toList (lo.map (·.1)) (hi.map (·.1)) = y.cps.toList := by
      rw [hpick, List.length_map, List.length_range] at h2
      unfold cut
      rw [hlen, h2]
      by_cases h0 : (lo.map (·.1)).elim 0 (clip y.length) = 0
      · rw [h0, List.drop_zero, ← hlen, List.take_length]
      · have : y.length = 0 := a_zero h2 h0 hb
        have : y.cps.toList = [] := List.length_eq_zero_iff.mp (hlen.trans this)
        rw [this]; simp
    refine q _ s.heap s.toks (stays_refl _) fun ok _ => ?_
    rw [hall]
    exact .str y u rfl
  · have hl : (⟨(cut y.cps.toList (lo.map (·.1)) (hi.map (·.1))).toArray⟩ : PySem.Str).length ≤ sizeLine := by
      show (cut y.cps.toList _ _).toArray.size ≤ _
      rw [List.size_toArray]
      refine Nat.le_trans ?_ (szOk_le hz)
      unfold cut
      rw [List.length_take, List.length_drop]
      exact Nat.le_trans (Nat.min_le_right _ _) (Nat.sub_le _ _)
    rw [hcut]
    exact ⟨hl, q _ s.heap _ (stays_refl _) fun ok _ => .str _ _ (by simp)⟩
theorem cutList_sound {l : List PV} {c : Value} {sl : Addr} {lo hi : Option Int} {vl vu : Value} (hT : Ok fun _ => True) (hf : FreshOk s Ok) (hs : s.heap.IsSliceOf sl vl vu .none) (pl : IsPart vl lo) (pu : IsPart vu hi) (hz : szOk l.length = true)
    (r : ∀ ok, Ok ok → VIt s.heap ok (.list l) c) : Gets A s (getItem c (.ref sl)) Ok (.list (cut l lo hi)) := by
  obtain ⟨a, items, rfl, hl, ha⟩ := VIt.lists hT r
  have hz' : items.size ≤ sizeLine := by have := (ha _ hT).length; have := szOk_le hz; simp at *; (first | with_reducible exact Nat.le_trans (by assumption) (by decide) | lia | omega)
  have hp : (slicePick items lo hi none).toList = cut items.toList lo hi := by
    rw [slicePick_plain]
    show (List.toArray _).toList = _
    unfold cut
    rw [Array.length_toList]
    rfl
  refine .newList (items := slicePick items lo hi none) hf (fun ok o => by rw [hp]; exact (ha ok o).cut lo hi) fun E Q q => ?_
  exact wpAny_getItem_list_slice hl.isList hs pl pu .none (by simp) q hz'
theorem range_rev {α : Type} (xs : Array α) : ((List.range xs.size).filterMap fun k => xs[xs.size - 1 - k]?) = xs.toList.reverse := by
  apply List.ext_getElem?
  intro i
  have h1 : ((List.range xs.size).filterMap fun k => xs[xs.size - 1 - k]?) = (List.range xs.size).pmap (fun k (hk : k < xs.size) => xs[xs.size - 1 - k]'(by omega)) (fun k hk => List.mem_range.mp hk) := by
    have : ∀ (l : List Nat) (hl : ∀ k ∈ l, k < xs.size), (l.filterMap fun k => xs[xs.size - 1 - k]?) = l.pmap (fun k (hk : k < xs.size) => xs[xs.size - 1 - k]'(by omega)) hl := by
      intro l hl
      induction l with
      | nil => rfl
      | cons k r ih =>
        have hk := hl k (.head _)
        rw [List.pmap_cons, List.filterMap_cons, Array.getElem?_eq_getElem (by omega)]
        simp only
        rw [ih fun j hj => hl j (.tail _ hj)]
    exact this _ _
  rw [h1, List.getElem?_pmap]
  by_cases hi : i < xs.size
  · simp [List.getElem?_range hi, List.getElem?_reverse, hi]
  · simp [hi, List.getElem?_eq_none (Nat.not_lt.mp hi)]
theorem revList_pick (items : Array Value) : slicePick items none none (some (-1)) = items.toList.reverse.toArray := by
  unfold slicePick
  have hb : sliceBounds none none (some (-1)) items.size = ((items.size : Int) - 1, -1, -1) := by simp [sliceBounds]
  rw [hb]
  congr 1
  rw [← range_rev]
  simp only
  unfold sliceRange
  have h1 : ¬ (-1 : Int) > 0 := by (first | with_reducible exact Nat.le_trans (by assumption) (by decide) | lia | omega)
  simp only [h1, if_false]
  have e : (- -1 : Int) = 1 := by decide
  have hc : ((if (items.size : Int) - 1 > -1 then ((items.size : Int) - 1 - -1 - -1 - 1) / (- -1) else 0)).toNat = items.size := by
    rw [e]
    split <;> first | (simp only [Int.ediv_one]; (first | with_reducible exact Nat.le_trans (by assumption) (by decide) | lia | omega)) | (first | with_reducible exact Nat.le_trans (by assumption) (by decide) | lia | omega)
  rw [hc, List.filterMap_map]
  congr 1
  funext k
  simp only [Function.comp_apply]
  rw [a_rev]
theorem revList_sound {l : List PV} {c : Value} {sl : Addr} {u : Tok} (hT : Ok fun _ => True) (hf : FreshOk s Ok) (hs : s.heap.IsSliceOf sl .none .none (.int (-1) u)) (hz : szOk l.length = true)
    (r : ∀ ok, Ok ok → VIt s.heap ok (.list l) c) : Gets A s (getItem c (.ref sl)) Ok (.list l.reverse) := by
  obtain ⟨a, items, rfl, hl, ha⟩ := VIt.lists hT r
  have hz' : items.size ≤ sizeLine := by have := (ha _ hT).length; have := szOk_le hz; simp at *; (first | with_reducible exact Nat.le_trans (by assumption) (by decide) | lia | omega)
  refine .newList (items := items.toList.reverse.toArray) hf (fun ok o => by simpa using (ha ok o).reverse) fun E Q q => ?_
  refine wpAny_getItem_list_slice (lo := none) (hi := none) (st := some (-1)) hl.isList hs .none .none (.int _ _) (by simp) ?_ hz'
  rw [revList_pick]
  exact q
theorem revStr_sound {l : List Nat} {c : Value} {sl : Addr} {u : Tok} (hs : s.heap.IsSlice sl none none (some (-1, u))) (hz : szOk l.length = true) (r : VRep s.heap (fun _ => True) (.str l) c) :
    Gets A s (getItem c (.ref sl)) Ok (.str l.reverse) := by
  cases r with | str y v hy =>
  subst hy
  have hcut : (slicePicked y none none (some (-1, u))).filterMap (y.cps[·]?) = y.cps.toList.reverse := by
    unfold slicePicked
    show (Builtin.Str.strSliceIndices none none (-1) y.length).filterMap _ = _
    rw [picked_rev, List.filterMap_map]
    exact range_rev y.cps
  intro E Q q
  refine wpAny_getItem_str_slice hs rfl ?_
  unfold sliceMade
  rw [if_neg (by simp), hcut]
  have hl : (⟨y.cps.toList.reverse.toArray⟩ : PySem.Str).length ≤ sizeLine := by
    show y.cps.toList.reverse.toArray.size ≤ _
    rw [List.size_toArray, List.length_reverse]; exact szOk_le hz
  exact ⟨hl, q _ s.heap _ (stays_refl _) fun ok _ => .str _ _ (by simp)⟩
end
end Mine
namespace Mine
open PySem PySem.Calls PyProof.Rows PySem.W PySem.SeqAt
open AutoSeq1 (wpAny_loadPart')
open MeetsSeq MeetsSeq2 MeetsSeq3 SeqRoads2
section
variable {A : Around} {s : Shared} {Ok : (Addr → Prop) → Prop} {h : Heap} {ok ok' : Addr → Prop}
noncomputable def eqOf (h : Heap) (k : PV) (v : Value) : Bool :=
  @decide (VRep h (fun _ => True) k v) (Classical.propDecidable _)
theorem eqOf_is {k x : PV} {v : Value} {b : Bool} (r : VRep h ok x v) (e : PV.eq x k = some b) : eqOf h k v = b := by
  cases b with
  | true => exact @decide_eq_true _ (Classical.propDecidable _) ((eq_true e).mp rfl ▸ r.weaken fun _ _ => trivial)
  | false => exact @decide_eq_false _ (Classical.propDecidable _) fun q => nomatch eqN_self 6 r q e
theorem eqOf_at {k : PV} {ck : Value} {l : List PV} {items : List Value} (hu : A.units + 7 < cLine) (ha : VAll s.heap ok l items) (rk : VRep s.heap ok' k ck) (hs : ∀ x ∈ l, ∃ b, PV.eq x k = some b) :
    ∀ y, y ∈ items → EqAt A.in1 s y ck (eqOf s.heap k y) := by
  intro y hy
  obtain ⟨j, hj⟩ := List.getElem?_of_mem hy
  obtain ⟨x, hx, rx⟩ := ha.get' hj
  obtain ⟨b, hb⟩ := hs x (List.mem_of_getElem? hx)
  rw [eqOf_is rx hb]
  exact (eq_sound 6 (A := A.in1) (by show A.units + 1 + 6 < cLine; omega) rx rk hb).1
theorem isInL_step {y k : PV} {r : List PV} {b : Bool} (e : isInL k (y :: r) = some b) : ∃ c d, PV.eq y k = some c ∧ isInL k r = some d ∧ (c || d) = b := by
  have e : (match PV.eq y k, isInL k r with | some a, some b => some (a || b) | _, _ => none) = some b := e
  cases h1 : PV.eq y k with
  | none => rw [h1] at e; exact noS e
  | some c =>
    cases h2 : isInL k r with
    | none => rw [h1, h2] at e; exact noS e
    | some d => rw [h1, h2] at e; exact ⟨c, d, rfl, rfl, Option.some.inj e⟩
theorem isInL_all : ∀ {l : List PV} {k : PV} {b : Bool}, isInL k l = some b → ∀ x ∈ l, ∃ c, PV.eq x k = some c
  | y :: r, k, b, e, x, hx => by
    obtain ⟨c, d, h1, h2, _⟩ := isInL_step e
    rcases List.mem_cons.mp hx with rfl | hx
    · exact ⟨c, h1⟩
    · exact isInL_all h2 x hx
theorem isInL_any : ∀ {l : List PV} {k : PV} {b : Bool} {items : List Value}, VAll h ok l items → isInL k l = some b → items.any (eqOf h k) = b
  | [], k, b, items, r, e => by rw [r.nil_inv]; exact Option.some.inj e
  | x :: l, k, b, items, r, e => by
    obtain ⟨v, us, rfl, r, rr⟩ := r.cons_inv
    obtain ⟨c, d, h1, h2, rfl⟩ := isInL_step e
    rw [List.any_cons, eqOf_is r h1, isInL_any rr h2]
theorem cmp_ints {a b : PV} {f : Int → Int → Bool} {c : Bool} (e : cmpI a b f = some c) : ∃ i j, a = .int i ∧ b = .int j ∧ f i j = c := by
  obtain ⟨i, hi, e⟩ := bnd e
  obtain ⟨j, hj, e⟩ := bnd e
  exact ⟨i, j, intP_eq hi, intP_eq hj, Option.some.inj e⟩
theorem none_p {b : PV} (h : isNoneP b = true) : b = .none := by cases b <;> first | rfl | cases h
theorem not_none {a : PV} {ca : Value} {ok : Addr → Prop} (r : VRep h ok a ca) (ha : isNoneP a = false) : ca ≠ .none := by
  rintro rfl
  cases r
  cases ha
theorem in_sound {a b : PV} {c : Bool} {ca cb : Value} (hu : A.units + 8 < cLine) (ra : VRep s.heap (fun _ => True) a ca) (rb : VRep s.heap (fun _ => True) b cb) (e : inP a b = some c) : Gets A s (compareOp .In ca cb) Ok (.bool c) := by
  cases b with
  | list l =>
    obtain ⟨_, its, rfl, o, hl, al⟩ := rb.list_inv
    refine .bool fun E Q q => in_listAt (eqOf s.heap a) hl.isList (fun y hy => eqOf_at (by (first | with_reducible exact Nat.le_trans (by assumption) (by decide) | lia | omega)) al ra (isInL_all e) y (Array.mem_toList_iff.mpr hy)) ?_
    rw [← Array.any_toList, isInL_any al e]; exact q
  | dict ks vs =>
    have e : (if keyP a = true then (getD2 a ks vs).bind fun o => some o.isSome else none) = some c := e
    split at e
    · rename_i hk
      obtain ⟨o, h, e⟩ := bnd e
      cases e
      refine fun E Q q => in_dict_sound (Ok := fun ok => ok = fun _ => True) (by (first | with_reducible exact Nat.le_trans (by assumption) (by decide) | lia | omega)) rfl (fun ok o => by subst o; exact rb) hk ra h E Q fun cv h' tk st r => q cv h' tk st fun ok o => ?_
      rw [(r _ rfl).bool_inv]
      exact .bool _
    · exact noS e
  | _ => exact noS e
theorem notin_sound {a b : PV} {c : Bool} {ca cb : Value} (hu : A.units + 8 < cLine) (ra : VRep s.heap (fun _ => True) a ca) (rb : VRep s.heap (fun _ => True) b cb) (e : notInP a b = some c) : Gets A s (compareOp .NotIn ca cb) Ok (.bool c) := by
  cases b with
  | list l =>
    obtain ⟨_, its, rfl, o, hl, al⟩ := rb.list_inv
    obtain ⟨d, h, e⟩ := bnd (show (isInL a l).bind (fun c => some (!c)) = some c from e)
    cases e
    refine .bool fun E Q q => notIn_listAt (eqOf s.heap a) hl.isList (fun y hy => eqOf_at (by (first | with_reducible exact Nat.le_trans (by assumption) (by decide) | lia | omega)) al ra (isInL_all h) y (Array.mem_toList_iff.mpr hy)) ?_
    rw [← Array.any_toList, isInL_any al h]; exact q
  | _ => exact noS e
theorem cmp_sound {op : CmpOp} {a b : PV} {c : Bool} {ca cb : Value} (hu : A.units + 8 < cLine) (ra : VRep s.heap (fun _ => True) a ca) (rb : VRep s.heap (fun _ => True) b cb) (e : evalCmp op a b = some c) :
    Gets A s (compareOp op ca cb) Ok (.bool c) := by
  cases op with
  | Eq => exact .bool fun E Q q => (eq_sound 6 (by (first | with_reducible exact Nat.le_trans (by assumption) (by decide) | lia | omega)) ra rb e).2 prog w E Q q
  | NotEq =>
    obtain ⟨d, h, e⟩ := bnd (show (PV.eq a b).bind (fun c => some (!c)) = some c from e)
    cases e
    exact .bool fun E Q q => ne_sound 6 (by (first | with_reducible exact Nat.le_trans (by assumption) (by decide) | lia | omega)) ra rb h prog w E Q q
  | Lt => exact .bool fun E Q q => lt_sound 6 (by (first | with_reducible exact Nat.le_trans (by assumption) (by decide) | lia | omega)) ra rb e prog w E Q q
  | LtE => exact noS e
  | Gt =>
    obtain ⟨i, j, rfl, rfl, rfl⟩ := cmp_ints e
    obtain ⟨t, rfl⟩ := ra.int_inv; obtain ⟨u, rfl⟩ := rb.int_inv
    exact .bool fun E Q q => PyProof.Rows.gt_int q
  | GtE => exact noS e
  | Is =>
    obtain ⟨hb, rfl⟩ := ifS e
    obtain rfl := none_p hb
    obtain rfl := rb.none_inv
    cases ha : isNoneP a with
    | true => obtain rfl := none_p ha; obtain rfl := ra.none_inv; exact .bool fun E Q q => wpAny_is_self rfl q
    | false => exact .bool fun E Q q => PyProof.Rows.is_none_ne (not_none ra ha) q
  | IsNot =>
    obtain ⟨hb, rfl⟩ := ifS e
    obtain rfl := none_p hb
    obtain rfl := rb.none_inv
    cases ha : isNoneP a with
    | true => obtain rfl := none_p ha; obtain rfl := ra.none_inv; exact .bool fun E Q q => wpAny_isNot_self rfl q
    | false => exact .bool fun E Q q => PyProof.Rows.isnot_none_ne (not_none ra ha) q
  | In => exact in_sound hu ra rb e
  | NotIn => exact notin_sound hu ra rb e
end
end Mine
namespace Mine
open PySem PySem.Calls PyProof.Rows PySem.W PySem.SeqAt
theorem strEq_iff {a b : Str} : strEq a b = true ↔ a = b := by
  unfold strEq
  constructor
  · intro h; exact Str.ext_list (by simpa using h)
  · rintro rfl; simp
theorem strEq_self (a : Str) : strEq a a = true := strEq_iff.mpr rfl
theorem strEq_ne {a b : Str} (h : a ≠ b) : strEq a b = false := by
  cases e : strEq a b with
  | false => rfl
  | true => exact absurd (strEq_iff.mp e) h
theorem kindIn_lookup (x : Str) : ∀ l : List (Str × NameKind), kindIn x l = l.lookup x
  | [] => rfl
  | (y, k) :: r => by
    unfold kindIn
    rw [List.lookup_cons]
    by_cases h : y = x
    · subst h; simp [strEq_self]
    · rw [strEq_ne h]
      have : (x == y) = false := by simpa using fun e => h e.symm
      simp [this, kindIn_lookup x r]
theorem look_setV (x y : Str) (s : Mode × PV) : ∀ vars : Vars, look y (setV x s vars) = if x = y then some s else look y vars
  | [] => by
    unfold setV look
    by_cases h : x = y
    · subst h; simp [strEq_self]
    · rw [strEq_ne h]; simp [h, look]
  | (z, t) :: r => by
    unfold setV
    by_cases h : z = x
    · subst h
      simp only [strEq_self, look]
      by_cases h2 : z = y
      · subst h2; simp [strEq_self]
      · rw [strEq_ne h2]; simp [h2]
    · rw [strEq_ne h]
      simp only [look]
      by_cases h2 : z = y
      · subst h2; simp [strEq_self, Ne.symm h]
      · rw [strEq_ne h2]; simpa using look_setV x y s r
section
variable (hb : Heap)
structure Pubs where
  p : Addr → Prop
  nw : Addr → Prop
  sub : ∀ a, p a → nw a
noncomputable def Wc (sc : Scope) (env : Env) (a : Addr) : Prop := a = env.locals ∨ ∃ x, kindIn x sc.names = some .cell ∧ env.cells.lookup x = some a
structure Reads (sc : Scope) (env : Env) (pub : Pubs) (vars : Vars) (h : Heap) : Prop where
  base : hb.StaysIn h
  glob : env.globals = mainGlobals
  blt : env.builtins = builtinsNs
  kind : env.scope.kind = .function
  kok : ∀ x k, kindIn x sc.names = some k → env.kindOf x = some k ∨ (k = .free ∧ env.kindOf x = some .cell)
  cel : ∀ x, kindIn x sc.names = some .cell ∨ kindIn x sc.names = some .free → ∃ c u, env.cells.lookup x = some c ∧ h.IsCell c u
  vars : ∃ m, h.Ns env.locals m ∧ ∀ x md v, look x vars = some (md, v) → ∃ cv, VRep h pub.nw v cv ∧ (md = .P → VRep h pub.p v cv) ∧
    (kindIn x sc.names = some .local → m x = some cv) ∧ (kindIn x sc.names = some .cell ∨ kindIn x sc.names = some .free → ∃ c, env.cells.lookup x = some c ∧ h.IsCell c (some cv))
noncomputable def Wr (sc : Scope) (env : Env) (vars : Vars) (val : Str → Option Value) (a : Addr) : Prop :=
  a = env.locals ∨ (∃ x, kindIn x sc.names = some .cell ∧ env.cells.lookup x = some a) ∨ ∃ x md v, look x vars = some (md, v) ∧ ownM md = true ∧ val x = some (.ref a)
noncomputable def SlotAt (h : Heap) (pb nb : Addr → Prop) (lent : Addr) (W : Addr → Prop) (md : Mode) (v : PV) (cv : Value) : Prop := match md with
  | .P => VRep h (fun a => (pb a ∧ nb a) ∧ ¬ W a) v cv
  | .B => VRep h (fun a => nb a ∧ ¬ W a) v cv
  | .O => okItems v = true ∧ ∃ a, cv = .ref a ∧ VRep h (fun b => b = a) v cv ∧ pb a ∧ nb a
  | .M => okItems v = true ∧ cv = .ref lent ∧ VRep h (fun b => b = lent) v cv ∧ nb lent
structure Frame (sc : Scope) (env : Env) (pb nb : Addr → Prop) (lent : Addr) (vars : Vars) (val : Str → Option Value) (h : Heap) : Prop where
  base : hb.StaysIn h
  glob : env.globals = mainGlobals
  blt : env.builtins = builtinsNs
  kind : env.scope.kind = .function
  kok : ∀ x k, kindIn x sc.names = some k → env.kindOf x = some k ∨ (k = .free ∧ env.kindOf x = some .cell)
  ns : ∃ m, h.Ns env.locals m ∧ ∀ x cv, kindIn x sc.names = some .local → (look x vars).isSome = true → val x = some cv → m x = some cv
  cel : ∀ x, kindIn x sc.names = some .cell ∨ kindIn x sc.names = some .free → ∃ c u, env.cells.lookup x = some c ∧ h.IsCell c u ∧ nb c ∧ ∀ cv, (look x vars).isSome = true → val x = some cv → u = some cv
  apart : ∀ x y c, kindIn x sc.names = some .cell → (kindIn y sc.names = some .cell ∨ kindIn y sc.names = some .free) → env.cells.lookup x = some c → env.cells.lookup y = some c → x = y
  slots : ∀ x md v, look x vars = some (md, v) → ∃ cv, val x = some cv ∧ SlotAt h pb nb lent (Wr sc env vars val) md v cv
  own1 : ∀ x y mx vx my vy a, look x vars = some (mx, vx) → ownM mx = true → look y vars = some (my, vy) → ownM my = true → val x = some (.ref a) → val y = some (.ref a) → x = y
  sepL : ∀ x md v, look x vars = some (md, v) → ownM md = true → val x ≠ some (.ref env.locals)
  nbL : nb env.locals
  old : ∀ a, Wr sc env vars val a → hb.get? a = none
  pbf : ∀ a, h.get? a = none → pb a
  nbf : ∀ a, h.get? a = none → nb a
end
section
variable {hb h h' : Heap} {sc : Scope} {env : Env} {pb nb nb' ok ok' : Addr → Prop} {lent : Addr} {vars : Vars} {val : Str → Option Value}
noncomputable def Cont (h : Heap) (a : Addr) : Prop := ∃ o, h.get? a = some o ∧ ((∃ xs n, o.data = .seq xs n) ∨ ∃ es ep, o.data = .dict es ep)
theorem reps_here : (∀ x v, VRep h ok x v → VRep h (fun a => ok a ∧ Cont h a) x v) ∧ ∀ l vs, VAll h ok l vs → VAll h (fun a => ok a ∧ Cont h a) l vs :=
  reps_map (fun _ _ hl => hl) (fun _ _ o hl => ⟨⟨o, let ⟨_, e⟩ := hl; ⟨_, e, .inl ⟨_, _, rfl⟩⟩⟩, hl⟩)
    (fun _ _ o hd => ⟨⟨o, let ⟨ob, _, _, ho, _, h2, _⟩ := hd; ⟨ob, ho, .inr ⟨_, _, h2⟩⟩⟩, hd⟩) (fun _ _ o hd => ⟨⟨o, let ⟨ob, _, _, ho, _, h2, _⟩ := hd; ⟨ob, ho, .inr ⟨_, _, h2⟩⟩⟩, hd⟩)
theorem VRep.here {x : PV} {v : Value} (r : VRep h ok x v) : VRep h (fun a => ok a ∧ Cont h a) x v := reps_here.1 x v r
theorem VAll.here {x : List PV} {v : List Value} (r : VAll h ok x v) : VAll h (fun a => ok a ∧ Cont h a) x v := reps_here.2 x v r
theorem Cont.some {a : Addr} (c : Cont h a) : h.get? a ≠ Option.none := by obtain ⟨o, e, _⟩ := c; rw [e]; simp
theorem VRep.exist {x : PV} {v : Value} (r : VRep h ok x v) : VRep h (fun a => ok a ∧ h.get? a ≠ Option.none) x v := r.here.weaken fun a o => ⟨o.1, o.2.some⟩
theorem VAll.exist {x : List PV} {v : List Value} (r : VAll h ok x v) : VAll h (fun a => ok a ∧ h.get? a ≠ Option.none) x v := r.here.weaken fun a o => ⟨o.1, o.2.some⟩
end
end Mine
namespace Mine
open PySem PySem.Calls PyProof.Rows PySem.W PySem.SeqAt
section
variable {hb h h' : Heap} {sc : Scope} {env : Env} {pb nb nb' ok ok' : Addr → Prop} {lent : Addr} {vars : Vars} {val : Str → Option Value}
noncomputable def Mut (h : Heap) (a : Addr) : Prop := ∃ o, h.get? a = some o ∧ ((∃ xs n, o.data = .seq xs n) ∨ (∃ es ep, o.data = .dict es ep) ∨ ∃ v, o.data = .cell v)
noncomputable def ItOb (h : Heap) (a : Addr) : Prop := ∃ o vs, h.get? a = some o ∧ o.data = .fields vs
theorem Cont.mut {a : Addr} (c : Cont h a) : Mut h a := let ⟨o, e, d⟩ := c; ⟨o, e, d.elim .inl fun x => .inr (.inl x)⟩
theorem Mut.some {a : Addr} (c : Mut h a) : h.get? a ≠ Option.none := by obtain ⟨o, e, _⟩ := c; rw [e]; simp
theorem ItOb.not {a : Addr} (c : Mut h a) (d : ItOb h a) : False := by
  obtain ⟨o, e, q⟩ := c
  obtain ⟨o', vs, e', r⟩ := d
  rw [e] at e'; cases e'
  rcases q with ⟨_, _, q⟩ | ⟨_, _, q⟩ | ⟨_, q⟩ <;> rw [r] at q <;> cases q
theorem ItOb.some {a : Addr} (c : ItOb h a) : h.get? a ≠ Option.none := by obtain ⟨o, _, e, _⟩ := c; rw [e]; simp
theorem isCell_mut {c : Addr} {v : Option Value} (x : h.IsCell c v) : Mut h c := let ⟨o, ho, hd⟩ := x; ⟨o, ho, .inr (.inr ⟨_, hd⟩)⟩
theorem ns_mut {a : Addr} {m} (x : h.Ns a m) : Mut h a := let ⟨o, es, ep, ho, hd, _⟩ := x; ⟨o, ho, .inr (.inl ⟨_, _, hd⟩)⟩
theorem cell_cont {c : Addr} {v : Option Value} (x : h.IsCell c v) (d : Cont h c) : False := by
  obtain ⟨o, ho, hd⟩ := x
  obtain ⟨o', ho', q⟩ := d
  rw [ho] at ho'; cases ho'
  rcases q with ⟨_, _, q⟩ | ⟨_, _, q⟩ <;> rw [hd] at q <;> cases q
theorem cell_ns {c : Addr} {v : Option Value} {m} (x : h.IsCell c v) (d : h.Ns c m) : False := by
  obtain ⟨o, ho, hd⟩ := x
  obtain ⟨o', es, ep, ho', hd', _⟩ := d
  rw [ho] at ho'; cases ho'
  rw [hd] at hd'; cases hd'
theorem cell_at {c : Addr} {v : Option Value} (x : h.IsCell c v) (k : ∀ o, h.get? c = some o → h'.get? c = some o) : h'.IsCell c v := let ⟨o, ho, hd⟩ := x; ⟨o, k o ho, hd⟩
theorem VRep.self_cont {v : PV} {a : Addr} (hv : okItems v = true) (r : VRep h (fun b => b = a) v (.ref a)) (hn : ∀ l, v ≠ .tup l) : Cont h a := by
  cases r.here with
  | tup => exact absurd rfl (hn _)
  | list o _ _ => exact o.2
  | dictT _ o => exact o.2
  | dictA _ o => exact o.2
theorem SlotAt.own {md : Mode} {v : PV} {cv : Value} {W : Addr → Prop} (s : SlotAt h pb nb lent W md v cv) (hm : ownM md = true) : okItems v = true ∧ ∃ a, cv = .ref a ∧ VRep h (fun b => b = a) v cv ∧ nb a := by
  cases md with
  | P => cases hm
  | B => cases hm
  | O => exact ⟨s.1, let ⟨a, e, r, _, n⟩ := s.2; ⟨a, e, r, n⟩⟩
  | M => exact ⟨s.1, _, s.2.1, s.2.2.1, s.2.2.2⟩
theorem SlotAt.any {md : Mode} {v : PV} {cv : Value} {W : Addr → Prop} (s : SlotAt h pb nb lent W md v cv) : VRep h (fun _ => True) v cv := by
  cases md with
  | P => exact VRep.weaken (fun _ _ => trivial) s
  | B => exact VRep.weaken (fun _ _ => trivial) s
  | O => obtain ⟨_, a, _, r, _⟩ := s; exact r.weaken fun _ _ => trivial
  | M => obtain ⟨_, _, r, _⟩ := s; exact r.weaken fun _ _ => trivial
theorem VRep.ref_some {v : PV} {a : Addr} (r : VRep h ok v (.ref a)) : Mut h a := by
  cases r with
  | tup hl => obtain ⟨n, e⟩ := hl; exact ⟨_, e, .inl ⟨_, _, rfl⟩⟩
  | list _ hl => obtain ⟨n, e⟩ := hl; exact ⟨_, e, .inl ⟨_, _, rfl⟩⟩
  | dictT _ _ hd => obtain ⟨ob, _, _, ho, _, h2, _⟩ := hd; exact ⟨ob, ho, .inr (.inl ⟨_, _, h2⟩)⟩
  | dictA _ _ hd => obtain ⟨ob, _, _, ho, _, h2, _⟩ := hd; exact ⟨ob, ho, .inr (.inl ⟨_, _, h2⟩)⟩
theorem Frame.wr_mut (F : Frame hb sc env pb nb lent vars val h) {a : Addr} (x : Wr sc env vars val a) : Mut h a := by
  rcases x with rfl | ⟨x, hx, hc⟩ | ⟨x, md, v, hx, hm, hv⟩
  · obtain ⟨m, hn, _⟩ := F.ns; exact ns_mut hn
  · obtain ⟨c, u, hl, hi, _⟩ := F.cel x (.inl hx)
    rw [hc] at hl; cases hl; exact isCell_mut hi
  · obtain ⟨cv, hcv, s⟩ := F.slots x md v hx
    rw [hv] at hcv; cases hcv
    exact s.any.ref_some
theorem Wr.of_wc {a : Addr} (x : Wc sc env a) : Wr sc env vars val a := x.elim .inl fun y => .inr (.inl y)
noncomputable def frPubs (sc : Scope) (env : Env) (pb nb : Addr → Prop) (vars : Vars) (val : Str → Option Value) : Pubs where
  p := fun a => (pb a ∧ nb a) ∧ ¬ Wr sc env vars val a
  nw := fun a => nb a ∧ ¬ Wc sc env a
  sub := fun _ o => ⟨o.1.2, fun x => o.2 (.of_wc x)⟩
theorem Frame.reads (F : Frame hb sc env pb nb lent vars val h) : Reads hb sc env (frPubs sc env pb nb vars val) vars h where
  base := F.base
  glob := F.glob
  blt := F.blt
  kind := F.kind
  kok := F.kok
  cel := fun x hx => let ⟨c, u, a, b, _⟩ := F.cel x hx; ⟨c, u, a, b⟩
  vars := by
    obtain ⟨m, hn, hm⟩ := F.ns
    refine ⟨m, hn, fun x md v hx => ?_⟩
    obtain ⟨cv, hcv, s⟩ := F.slots x md v hx
    have hs : (look x vars).isSome = true := by rw [hx]; rfl
    have notC : ownM md = true → ∀ a, cv = .ref a → Cont h a → ¬ Wc sc env a := by
      rintro ho a rfl hc (rfl | ⟨y, hy, hl⟩)
      · exact F.sepL x md v hx ho hcv
      · obtain ⟨c, u, h1, h2, _⟩ := F.cel y (.inl hy)
        rw [hl] at h1; cases h1; exact cell_cont h2 hc
    refine ⟨cv, ?_, fun e => by subst e; exact s, fun hk => hm x cv hk hs hcv, fun hk => ?_⟩
    · cases md with
      | P => exact VRep.weaken (fun a o => ⟨o.1.2, fun x => o.2 (.of_wc x)⟩) s
      | B => exact VRep.weaken (fun a o => ⟨o.1, fun x => o.2 (.of_wc x)⟩) s
      | O => obtain ⟨_, a, rfl, r, _, hn⟩ := s; exact r.here.weaken fun b o => by obtain ⟨rfl, c⟩ := o; exact ⟨hn, notC rfl b rfl c⟩
      | M => obtain ⟨_, rfl, r, hn⟩ := s; exact r.here.weaken fun b o => by obtain ⟨rfl, c⟩ := o; exact ⟨hn, notC rfl b rfl c⟩
    · obtain ⟨c, u, hl, hi, _, hu⟩ := F.cel x hk
      exact ⟨c, hl, hu cv hs hcv ▸ hi⟩
theorem Frame.fresh (F : Frame hb sc env pb nb lent vars val h) : ∀ b, h.get? b = none → (frPubs sc env pb nb vars val).p b := fun b e => ⟨⟨F.pbf b e, F.nbf b e⟩, fun x => (F.wr_mut x).some e⟩
theorem SlotAt.move {V W W' : Addr → Prop} {md : Mode} {v : PV} {cv : Value} (k : Kp V h h') (hP : ∀ a, Cont h a → nb a → ¬ W a → ¬ V a ∧ nb' a ∧ ¬ W' a) (hO : ownM md = true → ∀ a, cv = .ref a → nb a → Cont h a → ¬ V a ∧ nb' a)
    (s : SlotAt h pb nb lent W md v cv) : SlotAt h' pb nb' lent W' md v cv := by
  cases md with
  | P =>
    refine (VRep.here s).kp k fun a o => ?_
    obtain ⟨h1, h2, h3⟩ := hP a o.2 o.1.1.2 o.1.2
    exact ⟨h1, ⟨o.1.1.1, h2⟩, h3⟩
  | B =>
    refine (VRep.here s).kp k fun a o => ?_
    obtain ⟨h1, h2, h3⟩ := hP a o.2 o.1.1 o.1.2
    exact ⟨h1, h2, h3⟩
  | O =>
    obtain ⟨hi, a, rfl, r, hp, hn⟩ := s
    have key : ∀ b, b = a ∧ Cont h b → ¬ V b := fun b o => by obtain ⟨rfl, c⟩ := o; exact (hO rfl b rfl hn c).1
    refine ⟨hi, a, rfl, r.here.kp k fun b o => ⟨key b o, o.1⟩, hp, ?_⟩
    cases r.here with
    | tup hl _ => obtain ⟨n, e⟩ := hl; exact (hO rfl a rfl hn ⟨_, e, .inl ⟨_, _, rfl⟩⟩).2
    | list o => exact (hO rfl a rfl hn o.2).2
    | dictT _ o => exact (hO rfl a rfl hn o.2).2
    | dictA _ o => exact (hO rfl a rfl hn o.2).2
  | M =>
    obtain ⟨hi, rfl, r, hn⟩ := s
    have key : ∀ b, b = lent ∧ Cont h b → ¬ V b := fun b o => by obtain ⟨rfl, c⟩ := o; exact (hO rfl b rfl hn c).1
    refine ⟨hi, rfl, r.here.kp k fun b o => ⟨key b o, o.1⟩, ?_⟩
    cases r.here with
    | tup hl _ => obtain ⟨n, e⟩ := hl; exact (hO rfl lent rfl hn ⟨_, e, .inl ⟨_, _, rfl⟩⟩).2
    | list o => exact (hO rfl lent rfl hn o.2).2
    | dictT _ o => exact (hO rfl lent rfl hn o.2).2
    | dictA _ o => exact (hO rfl lent rfl hn o.2).2
theorem Frame.move {V : Addr → Prop} (F : Frame hb sc env pb nb lent vars val h) (k : Kp V h h') (hV : ∀ a, V a → ItOb h a ∨ ¬ nb a) (ex : ∀ a, h'.get? a = none → h.get? a = none)
    (hvb : ∀ a, V a → hb.get? a = none)
    (hn : ∀ a, nb a → h.get? a ≠ none → nb' a) (hn' : ∀ a, h'.get? a = none → nb' a) : Frame hb sc env pb nb' lent vars val h' := by
  have notV : ∀ a, Mut h a → nb a → ¬ V a := fun a m n v => (hV a v).elim (ItOb.not m) fun q => q n
  have keepM : ∀ a, Mut h a → nb a → ∀ o, h.get? a = some o → h'.get? a = some o := fun a m n o e => k a o e (.inl (notV a m n))
  exact {
    base := fun a o e => k a o (F.base a o e) (.inl fun v => by rw [hvb a v] at e; cases e)
    glob := F.glob
    blt := F.blt
    kind := F.kind
    kok := F.kok
    ns := let ⟨m, hm, r⟩ := F.ns; ⟨m, hm.at' (keepM _ (ns_mut hm) F.nbL), r⟩
    cel := fun x hx => let ⟨c, u, a, b, d, e⟩ := F.cel x hx; ⟨c, u, a, cell_at b (keepM _ (isCell_mut b) d), hn c d (isCell_mut b).some, e⟩
    apart := F.apart
    slots := fun x md v hx => let ⟨cv, hcv, s⟩ := F.slots x md v hx
      ⟨cv, hcv, s.move k (fun a c hna hw => ⟨notV a c.mut hna, hn a hna c.some, hw⟩) fun _ a _ hna c => ⟨notV a c.mut hna, hn a hna c.some⟩⟩
    own1 := F.own1
    sepL := F.sepL
    nbL := hn _ F.nbL (by obtain ⟨m, hm, _⟩ := F.ns; exact (ns_mut hm).some)
    old := F.old
    pbf := fun a e => F.pbf a (ex a e)
    nbf := hn' }
theorem Frame.move' {V : Addr → Prop} (F : Frame hb sc env pb nb lent vars val h) (k : Kp V h h') (hV : ∀ a, V a → ItOb h a ∨ ¬ nb a) (hp : ∀ a, h'.get? a = none → pb a)
    (hvb : ∀ a, V a → hb.get? a = none)
    (hn : ∀ a, nb a → h.get? a ≠ none → nb' a) (hn' : ∀ a, h'.get? a = none → nb' a) : Frame hb sc env pb nb' lent vars val h' := by
  have notV : ∀ a, Mut h a → nb a → ¬ V a := fun a m n v => (hV a v).elim (ItOb.not m) fun q => q n
  have keepM : ∀ a, Mut h a → nb a → ∀ o, h.get? a = some o → h'.get? a = some o := fun a m n o e => k a o e (.inl (notV a m n))
  exact {
    base := fun a o e => k a o (F.base a o e) (.inl fun v => by rw [hvb a v] at e; cases e)
    glob := F.glob
    blt := F.blt
    kind := F.kind
    kok := F.kok
    ns := let ⟨m, hm, r⟩ := F.ns; ⟨m, hm.at' (keepM _ (ns_mut hm) F.nbL), r⟩
    cel := fun x hx => let ⟨c, u, a, b, d, e⟩ := F.cel x hx; ⟨c, u, a, cell_at b (keepM _ (isCell_mut b) d), hn c d (isCell_mut b).some, e⟩
    apart := F.apart
    slots := fun x md v hx => let ⟨cv, hcv, s⟩ := F.slots x md v hx
      ⟨cv, hcv, s.move k (fun a c hna hw => ⟨notV a c.mut hna, hn a hna c.some, hw⟩) fun _ a _ hna c => ⟨notV a c.mut hna, hn a hna c.some⟩⟩
    own1 := F.own1
    sepL := F.sepL
    nbL := hn _ F.nbL (by obtain ⟨m, hm, _⟩ := F.ns; exact (ns_mut hm).some)
    old := F.old
    pbf := hp
    nbf := hn' }
theorem none_of_stays (st : h.StaysIn h') {a : Addr} (e : h'.get? a = none) : h.get? a = none := by
  cases q : h.get? a with
  | none => rfl
  | some o => rw [st a o q] at e; cases e
theorem Frame.stays (F : Frame hb sc env pb nb lent vars val h) (st : h.StaysIn h') : Frame hb sc env pb nb lent vars val h' :=
  F.move (V := fun _ => False) (Kp.of_stays st) (fun _ f => f.elim) (fun _ => none_of_stays st) (fun _ f => f.elim) (fun _ x _ => x) fun a e => F.nbf a (none_of_stays st e)
theorem Frame.narrow (F : Frame hb sc env pb nb lent vars val h) (st : h.StaysIn h') (hn : ∀ a, nb a → h.get? a ≠ none → nb' a) (hn' : ∀ a, h'.get? a = none → nb' a) : Frame hb sc env pb nb' lent vars val h' :=
  F.move (V := fun _ => False) (Kp.of_stays st) (fun _ f => f.elim) (fun _ => none_of_stays st) (fun _ f => f.elim) hn hn'
theorem Reads.stays {pub : Pubs} (R : Reads hb sc env pub vars h) (st : h.StaysIn h') : Reads hb sc env pub vars h' where
  base := stays_trans R.base st
  glob := R.glob
  blt := R.blt
  kind := R.kind
  kok := R.kok
  cel := fun x hx => let ⟨c, u, a, b⟩ := R.cel x hx; ⟨c, u, a, b.keeps st⟩
  vars := by
    obtain ⟨m, hn, r⟩ := R.vars
    refine ⟨m, hn.keeps st, fun x md v hx => ?_⟩
    obtain ⟨cv, h1, h2, h3, h4⟩ := r x md v hx
    exact ⟨cv, h1.stays st fun _ x => x, fun e => (h2 e).stays st fun _ x => x, h3, fun e => let ⟨c, a, b⟩ := h4 e; ⟨c, a, b.keeps st⟩⟩
structure Adv (W : Addr → Prop) (h : Heap) (W' : Addr → Prop) (h' : Heap) : Prop where
  kp : Kp W h h'
  ex : ∀ a, h'.get? a = none → h.get? a = none ∨ W a
  wr : ∀ a, W' a → W a ∨ h.get? a = none
theorem Adv.stays {W : Addr → Prop} (st : h.StaysIn h') : Adv W h W h' := ⟨Kp.of_stays st, fun _ e => .inl (none_of_stays st e), fun _ => .inl⟩
theorem Adv.refl (W : Addr → Prop) (h : Heap) : Adv W h W h := .stays (stays_refl h)
theorem Adv.trans {W W₁ W₂ : Addr → Prop} {h₁ h₂ : Heap} (a : Adv W h W₁ h₁) (b : Adv W₁ h₁ W₂ h₂) : Adv W h W₂ h₂ where
  kp := fun x o e q => b.kp x o (a.kp x o e q) (q.imp (fun n y => (a.wr x y).elim n fun z => by rw [z] at e; cases e) id)
  ex := fun x e => (b.ex x e).elim (a.ex x) fun w => (a.wr x w).elim .inr .inl
  wr := fun x y => (b.wr x y).elim (a.wr x) fun z => (a.ex x z).elim .inr .inl
theorem Adv.weaken {W W' V V' : Addr → Prop} (a : Adv W h W' h') (s : ∀ x, W x → V x) (t : ∀ x, V' x → W' x) : Adv V h V' h' :=
  ⟨a.kp.mono s, fun x e => (a.ex x e).imp id (s x), fun x y => (a.wr x (t x y)).imp (s x) id⟩
end
end Mine
namespace Mine
open PySem PySem.Calls PyProof.Rows PySem.W PySem.SeqAt
section
variable {hb h h' : Heap} {sc : Scope} {env : Env} {pb nb nb' nb₀ ok ok' : Addr → Prop} {lent : Addr} {vars : Vars} {val : Str → Option Value} {M : Model} {A : Around}
noncomputable def setF (val : Str → Option Value) (x : Str) (cv : Value) : Str → Option Value := fun y => if y = x then some cv else val y
theorem kp_sameBut {c : Addr} (hs : Heap.SameBut c h h') (hc : Mut h c) (ht : ∀ o, h.get? c = some o → ¬ isTupObj o) : Kp (fun a => a = c) h h' := fun a o e q => by
  by_cases hac : a = c
  · subst hac
    exact (q.elim (fun n => (n rfl).elim) fun t => (ht o e t).elim)
  · exact (hs.2 a hac).trans e
theorem sameBut_ex {c : Addr} (hs : Heap.SameBut c h h') (hc : h'.get? c ≠ none) : ∀ a, h'.get? a = none → h.get? a = none := fun a e => by
  by_cases hac : a = c
  · subst hac; exact absurd e hc
  · rw [← hs.2 a hac]; exact e
theorem ns_notTup {a : Addr} {m} (x : h.Ns a m) : ∀ o, h.get? a = some o → ¬ isTupObj o := fun o e t => by
  obtain ⟨o', es, ep, ho', hd', _⟩ := x
  rw [e] at ho'; cases ho'
  obtain ⟨_, xs, n, q⟩ := t
  rw [hd'] at q; cases q
theorem cell_notTup {a : Addr} {v} (x : h.IsCell a v) : ∀ o, h.get? a = some o → ¬ isTupObj o := fun o e t => by
  obtain ⟨o', ho', hd'⟩ := x
  rw [e] at ho'; cases ho'
  obtain ⟨_, xs, n, q⟩ := t
  rw [hd'] at q; cases q
noncomputable def NewSlot (hb h : Heap) (pb nb nb₀ W : Addr → Prop) (md : Mode) (v : PV) (cv : Value) : Prop :=
  (md = .P ∧ VRep h (fun a => (pb a ∧ nb a) ∧ ¬ W a) v cv) ∨
  (md = .O ∧ okItems v = true ∧ ∃ a, cv = .ref a ∧ VRep h (fun b => b = a) v cv ∧ pb a ∧ nb a ∧ ¬ nb₀ a ∧ hb.get? a = none)
theorem look_isSome {x y : Str} {s : Mode × PV} (hxy : y ≠ x) : look y (setV x s vars) = look y vars := by
  rw [look_setV, if_neg (Ne.symm hxy)]
theorem Frame.set {x : Str} {md : Mode} {v : PV} {cv : Value} {c : Addr} (F : Frame hb sc env pb nb₀ lent vars val h)
    (hcW : Wr sc env vars val c) (hs : Heap.SameBut c h h') (hct : ∀ o, h.get? c = some o → ¬ isTupObj o) (hc' : h'.get? c ≠ none)
    (hns : ∃ m, h'.Ns env.locals m ∧ ∀ y u, kindIn y sc.names = some .local → (look y (setV x (md, v) vars)).isSome = true → setF val x cv y = some u → m y = some u)
    (hcel : ∀ y, kindIn y sc.names = some .cell ∨ kindIn y sc.names = some .free → ∃ c u, env.cells.lookup y = some c ∧ h'.IsCell c u ∧ nb₀ c ∧ ∀ z, (look y (setV x (md, v) vars)).isSome = true → setF val x cv y = some z → u = some z)
    (hc0 : c = env.locals ∨ ∃ u, h.IsCell c u)
    (hnb : ∀ a, nb₀ a → nb a) (hsl : NewSlot hb h pb nb nb₀ (Wr sc env vars val) md v cv) :
    Frame hb sc env pb nb lent (setV x (md, v) vars) (setF val x cv) h' := by
  have hW : ∀ a, Wr sc env (setV x (md, v) vars) (setF val x cv) a → Wr sc env vars val a ∨ (md = .O ∧ cv = .ref a) := by
    rintro a (rfl | hx | ⟨y, my, vy, hy, hm, hv⟩)
    · exact .inl (.inl rfl)
    · exact .inl (.inr (.inl hx))
    · by_cases hyx : y = x
      · subst hyx
        rw [look_setV, if_pos rfl] at hy; cases hy
        have : cv = .ref a := by simpa [setF] using hv
        rcases hsl with ⟨rfl, _⟩ | ⟨rfl, _⟩
        · cases hm
        · exact .inr ⟨rfl, this⟩
      · rw [look_isSome hyx] at hy
        exact .inl (.inr (.inr ⟨y, my, vy, hy, hm, by simpa [setF, hyx] using hv⟩))
  have hWn : ∀ a, Wr sc env (setV x (md, v) vars) (setF val x cv) a → nb₀ a → Wr sc env vars val a := fun a ha hn => (hW a ha).elim id fun q => by
    rcases hsl with ⟨rfl, _⟩ | ⟨_, _, a', e, _, _, _, hn', _⟩
    · cases q.1
    · have := q.2.symm.trans e; cases this; exact absurd hn hn'
  have kp := kp_sameBut hs (F.wr_mut hcW) hct
  have notc : ∀ a, Cont h a → a ≠ env.locals → a ≠ c := fun a ha hl e => by
    subst e
    rcases hc0 with rfl | ⟨u, hu⟩
    · exact hl rfl
    · exact cell_cont hu ha
  exact {
    base := fun a o e => by
      have : a ≠ c := by rintro rfl; rw [F.old _ hcW] at e; cases e
      rw [hs.2 a this]; exact F.base a o e
    glob := F.glob
    blt := F.blt
    kind := F.kind
    kok := F.kok
    ns := hns
    cel := fun y hy => let ⟨c', u, a, b, d, e⟩ := hcel y hy; ⟨c', u, a, b, hnb _ d, e⟩
    apart := F.apart
    slots := fun y my vy hy => by
      by_cases hyx : y = x
      · subst hyx
        rw [look_setV, if_pos rfl] at hy; cases hy
        refine ⟨cv, by simp [setF], ?_⟩
        rcases hsl with ⟨rfl, r⟩ | ⟨rfl, hi, a, rfl, r, hp, hn, hn0, ho⟩
        · refine VRep.kp kp (fun a o => ⟨?_, o.1, fun q => (hW a q).elim o.2 fun q => by cases q.1⟩) r
          rintro rfl; exact o.2 hcW
        · refine ⟨hi, a, rfl, r.here.kp kp fun b o => ⟨?_, o.1⟩, hp, hn⟩
          obtain ⟨rfl, hb'⟩ := o
          exact notc b hb' fun e => hn0 (e ▸ F.nbL)
      · rw [look_isSome hyx] at hy
        obtain ⟨u, hu, s⟩ := F.slots y my vy hy
        refine ⟨u, by simpa [setF, hyx] using hu, s.move kp (fun a ha hna hw => ⟨?_, hnb a hna, fun q => hw (hWn a q hna)⟩) fun hm a e hna ha => ⟨?_, hnb a hna⟩⟩
        · rintro rfl; exact hw hcW
        · exact notc a ha fun q => F.sepL y my vy hy hm (by rw [hu, e, q])
    own1 := fun y z my vy mz vz a hy hmy hz hmz hvy hvz => by
      have clash : ∀ y my vy, y ≠ x → look y (setV x (md, v) vars) = some (my, vy) → ownM my = true → setF val x cv y = some (.ref a) → md = .O → cv = .ref a → False := fun y my vy hyx hy hmy hvy e1 e2 => by
        rw [look_isSome hyx] at hy
        rcases hsl with ⟨rfl, _⟩ | ⟨_, _, a', e, _, _, _, hn', _⟩
        · cases e1
        · have := e2.symm.trans e; cases this
          obtain ⟨u, hu, s⟩ := F.slots y my vy hy
          have hvy' : val y = some (.ref a) := by simpa [setF, hyx] using hvy
          rw [hu] at hvy'; cases hvy'
          obtain ⟨_, b, e3, _, hn⟩ := s.own hmy
          cases e3; exact hn' hn
      have isO : ∀ my vy, look x (setV x (md, v) vars) = some (my, vy) → ownM my = true → md = .O := fun my vy hy hm => by
        rw [look_setV, if_pos rfl] at hy; cases hy
        rcases hsl with ⟨rfl, _⟩ | ⟨rfl, _⟩
        · cases hm
        · rfl
      by_cases hyx : y = x
      · by_cases hzx : z = x
        · rw [hyx, hzx]
        · subst hyx
          exact (clash z mz vz hzx hz hmz hvz (isO _ _ hy hmy) (by simpa [setF] using hvy)).elim
      · by_cases hzx : z = x
        · subst hzx
          exact (clash y my vy hyx hy hmy hvy (isO _ _ hz hmz) (by simpa [setF] using hvz)).elim
        · rw [look_isSome hyx] at hy
          rw [look_isSome hzx] at hz
          exact F.own1 y z my vy mz vz a hy hmy hz hmz (by simpa [setF, hyx] using hvy) (by simpa [setF, hzx] using hvz)
    sepL := fun y my vy hy hm hv => by
      by_cases hyx : y = x
      · subst hyx
        rw [look_setV, if_pos rfl] at hy; cases hy
        rcases hsl with ⟨rfl, _⟩ | ⟨rfl, hi, a, rfl, r, hp, hn, hn0, ho⟩
        · cases hm
        · have : a = env.locals := by simpa [setF] using hv
          exact hn0 (this ▸ F.nbL)
      · rw [look_isSome hyx] at hy
        exact F.sepL y my vy hy hm (by simpa [setF, hyx] using hv)
    nbL := hnb _ F.nbL
    old := fun a q => (hW a q).elim (F.old a) fun q => by
      rcases hsl with ⟨rfl, _⟩ | ⟨_, _, a', e, _, _, _, _, ho⟩
      · cases q.1
      · have := q.2.symm.trans e; cases this; exact ho
    pbf := fun a e => F.pbf a (sameBut_ex hs hc' a e)
    nbf := fun a e => hnb a (F.nbf a (sameBut_ex hs hc' a e)) }
theorem Frame.set_wr {x : Str} {md : Mode} {v : PV} {cv : Value} {W : Addr → Prop} (hsl : NewSlot hb h pb nb nb₀ W md v cv) :
    ∀ a, Wr sc env (setV x (md, v) vars) (setF val x cv) a → Wr sc env vars val a ∨ (md = .O ∧ cv = .ref a) := by
  rintro a (rfl | hx | ⟨y, my, vy, hy, hm, hv⟩)
  · exact .inl (.inl rfl)
  · exact .inl (.inr (.inl hx))
  · by_cases hyx : y = x
    · subst hyx
      rw [look_setV, if_pos rfl] at hy; cases hy
      have : cv = .ref a := by simpa [setF] using hv
      rcases hsl with ⟨rfl, _⟩ | ⟨rfl, _⟩
      · cases hm
      · exact .inr ⟨rfl, this⟩
    · rw [look_isSome hyx] at hy
      exact .inl (.inr (.inr ⟨y, my, vy, hy, hm, by simpa [setF, hyx] using hv⟩))
theorem Frame.store {x : Str} {md : Mode} {v : PV} {cv : Value} {s : Shared} {Q : Unit → Shared → Prop} {E : Value → Shared → Prop} (F : Frame hb sc env pb nb₀ lent vars val s.heap) (hx : ownK sc x = true)
    (hnb : ∀ a, nb₀ a → nb a) (hsl : NewSlot hb s.heap pb nb nb₀ (Wr sc env vars val) md v cv)
    (q : ∀ h' tk, Frame hb sc env pb nb lent (setV x (md, v) vars) (setF val x cv) h' → Kp (Wr sc env vars val) s.heap h' → (∀ a, h'.get? a = none → s.heap.get? a = none) → Q () { s with heap := h', toks := tk }) :
    wpAny M A (storeName env x cv) Q E s := by
  unfold ownK at hx
  split at hx
  · rename_i hk
    obtain ⟨m, hn, hm⟩ := F.ns
    have hl : env.kindOf x = some .local := (F.kok x _ hk).elim id fun e => by cases e.1
    refine wpAny_storeName_local hl hn (fun h' hn' hs' => ?_) (by rw [F.kind]; rfl)
    have hW : Wr sc env vars val env.locals := .inl rfl
    refine q h' _ ?_ ((kp_sameBut hs' (ns_mut hn) (ns_notTup hn)).mono fun a e => by rw [e]; exact hW) (sameBut_ex hs' (ns_mut hn').some)
    refine F.set hW hs' (ns_notTup hn) (ns_mut hn').some ⟨_, hn', fun y u hy hl' hu => ?_⟩ (fun y hy => ?_) (.inl rfl) hnb hsl
    · by_cases hyx : y = x
      · subst hyx; simpa [setF] using hu
      · simp only [hyx, if_false]
        exact hm y u hy (by rw [look_isSome hyx] at hl'; exact hl') (by simpa [setF, hyx] using hu)
    · have hyx : y ≠ x := by rintro rfl; rw [hk] at hy; simp at hy
      obtain ⟨c, u, h1, h2, h3, h4⟩ := F.cel y hy
      refine ⟨c, u, h1, h2.sameBut hs' fun e => ?_, h3, fun z hz hv => h4 z (by rwa [look_isSome hyx] at hz) (by simpa [setF, hyx] using hv)⟩
      subst e; exact cell_ns h2 hn
  · rename_i hk
    have hl : env.kindOf x = some .cell := (F.kok x _ hk).elim id fun e => by cases e.1
    obtain ⟨c, u, h1, h2, h3, h4⟩ := F.cel x (.inl hk)
    refine wpAny_storeName_cell F.kind hl h1 h2 fun h' hc' hs' => ?_
    have hW : Wr sc env vars val c := .inr (.inl ⟨x, hk, h1⟩)
    refine q h' s.toks ?_ ((kp_sameBut hs' (isCell_mut h2) (cell_notTup h2)).mono fun a e => by rw [e]; exact hW) (sameBut_ex hs' (isCell_mut hc').some)
    obtain ⟨m, hn, hm⟩ := F.ns
    refine F.set hW hs' (cell_notTup h2) (isCell_mut hc').some ⟨m, hn.sameBut hs' fun e => ?_, fun y u hy hl' hu => ?_⟩ (fun y hy => ?_) (.inr ⟨u, h2⟩) hnb hsl
    · subst e; exact cell_ns h2 hn
    · have hyx : y ≠ x := by rintro rfl; rw [hk] at hy; cases hy
      exact hm y u hy (by rwa [look_isSome hyx] at hl') (by simpa [setF, hyx] using hu)
    · by_cases hyx : y = x
      · subst hyx
        exact ⟨c, some cv, h1, hc', h3, fun z _ hv => by simpa [setF] using hv⟩
      · obtain ⟨c2, u2, g1, g2, g3, g4⟩ := F.cel y hy
        refine ⟨c2, u2, g1, g2.sameBut hs' fun e => ?_, g3, fun z hz hv => g4 z (by rwa [look_isSome hyx] at hz) (by simpa [setF, hyx] using hv)⟩
        subst e; exact hyx (F.apart x y _ hk hy h1 g1).symm
  · cases hx
theorem Reads.load {pub : Pubs} {x : Str} {md : Mode} {v : PV} {s : Shared} (R : Reads hb sc env pub vars s.heap) (hx : look x vars = some (md, v))
    (hk : kindIn x sc.names = some .local ∨ kindIn x sc.names = some .cell ∨ kindIn x sc.names = some .free) (hd : x ≠ "__classdict__") :
    ∃ cv, VRep s.heap pub.nw v cv ∧ (md = .P → VRep s.heap pub.p v cv) ∧ ∀ (E : Value → Shared → Prop) (Q : Value → Shared → Prop), Q cv s → wpAny M A (loadName env x) Q E s := by
  obtain ⟨m, hn, r⟩ := R.vars
  obtain ⟨cv, h1, h2, h3, h4⟩ := r x md v hx
  refine ⟨cv, h1, h2, fun E Q q => ?_⟩
  have hd' : (x == ("__classdict__" : Str)) = false := by simpa using hd
  rcases hk with hk | hk | hk
  · exact wpAny_loadName_local R.kind ((R.kok x _ hk).elim id fun e => by cases e.1) hn (h3 hk) q
  · obtain ⟨c, hc, hi⟩ := h4 (.inl hk)
    exact wpAny_loadName_cell R.kind ((R.kok x _ hk).elim id fun e => by cases e.1) hc hi q
  · obtain ⟨c, hc, hi⟩ := h4 (.inr hk)
    rcases R.kok x _ hk with e | ⟨_, e⟩
    · exact wpAny_loadName_free R.kind e hc hi q hd'
    · exact wpAny_loadName_cell R.kind e hc hi q
end
end Mine
namespace Mine
open PySem PySem.Calls PyProof.Rows PySem.W PySem.SeqAt
noncomputable def biVal : BI → Value
  | .len => .builtin "len"
  | .abs => .builtin "abs"
  | .min => .builtin "min"
  | .max => .builtin "max"
  | .sum => .builtin "sum"
  | .sorted => .builtin "sorted"
  | .list => .type "list"
  | .tuple => .type "tuple"
  | .dict => .type "dict"
  | .range => .type "range"
  | .enumerate => .type "enumerate"
  | .isinstance => .builtin "isinstance"
noncomputable def ConstRep : PV → Value → Prop
  | .none, v => v = .none
  | .int i, v => ∃ t, v = .int i t
  | _, _ => False
inductive Bound : Vars → List (Mode × PV) → List Value → List (Str × Value) → Prop
  | nil : Bound [] [] [] []
  | arg {x : Str} {a : Mode × PV} {v : Value} {vars : Vars} {as : List (Mode × PV)} {vs : List Value} {bs : List (Str × Value)} (r : Bound vars as vs bs) : Bound ((x, a) :: vars) (a :: as) (v :: vs) ((x, v) :: bs)
  | dflt {x : Str} {d : PV} {v : Value} {vars : Vars} {bs : List (Str × Value)} (c : ConstRep d v) (r : Bound vars [] [] bs) : Bound ((x, .P, d) :: vars) [] [] ((x, v) :: bs)
structure FnAt (hb : Heap) (a : Addr) (fn : Fn) : Prop where
  fd : ∃ o fd, hb.get? a = some o ∧ o.data = .func fd ∧ fd.globals = mainGlobals ∧ fd.builtins = builtinsNs ∧ fd.closure = [] ∧ fd.body = .stmts fn.body ∧ fd.scope = fn.scope ∧
    hb.CodeRec fd.code fd.qualname ∧
    ∀ as vals vars s, hb.StaysIn s.heap → as.length = vals.length → bindArgsV fn.params as fn.dflts = some vars → ∃ binds, BindsTo s fd ⟨vals, []⟩ binds ∧ Bound vars as vals binds
  kind : fn.scope.kind = .function
  co : fn.scope.isCoroutine = false
  gen : fn.scope.isGenerator = false
  apart : (fn.scope.names.map (·.1)).Nodup
  nofree : ∀ x ∈ fn.scope.names, x.2 ≠ .free
  own : ∀ as vars, bindArgsV fn.params as fn.dflts = some vars → (∀ x ∈ vars, ownK fn.scope x.1 = true) ∧ (vars.map (·.1)).Nodup
structure Glob (T : Tab) (hb : Heap) : Prop where
  ns : ∃ mg mb, hb.Ns mainGlobals mg ∧ hb.Ns builtinsNs mb ∧ (∀ x b, biOf x = some b → mg x = none ∧ mb x = some (biVal b)) ∧
    ∀ x fn, tabLook x T = some fn → (x == ("__debug__" : Str)) = false ∧ ∃ a, mg x = some (.ref a) ∧ FnAt hb a fn
  nolimit : hb.NoLimit
structure Room (A : Around) (n : Nat) : Prop where
  h : A.handled = none
  d : A.depth + n + 5 ≤ recursionLimit
  u : A.units + 4 * n + 100 ≤ cLine
theorem Room.le {A : Around} {n m : Nat} (r : Room A n) (h : m ≤ n) : Room A m := ⟨r.h, by have := r.d; (first | with_reducible exact Nat.le_trans (by assumption) (by decide) | lia | omega), by have := r.u; (first | with_reducible exact Nat.le_trans (by assumption) (by decide) | lia | omega)⟩
theorem Room.pred {A : Around} {n : Nat} (r : Room A (n + 1)) : Room A n := r.le (Nat.le_succ n)
theorem Room.deeper {A : Around} {n : Nat} {env : Env} (r : Room A (n + 1)) : Room (A.deeper env) n := ⟨r.h, by have := r.d; show A.depth + 1 + n + 5 ≤ _; (first | with_reducible exact Nat.le_trans (by assumption) (by decide) | lia | omega), by have := r.u; show A.units + 3 + 4 * n + 100 ≤ _; (first | with_reducible exact Nat.le_trans (by assumption) (by decide) | lia | omega)⟩
noncomputable def Oks (p : Bool) (pub : Pubs) : (Addr → Prop) → Prop := fun ok => ok = (fun _ => True) ∨ ok = pub.nw ∨ (p = true ∧ ok = pub.p)
theorem Oks.T {p : Bool} {pub : Pubs} : Oks p pub fun _ => True := .inl rfl
theorem Oks.N {p : Bool} {pub : Pubs} : Oks p pub pub.nw := .inr (.inl rfl)
theorem Oks.P {pub : Pubs} : Oks true pub pub.p := .inr (.inr ⟨rfl, rfl⟩)
inductive ArgsF (Sl : Mode → PV → Value → Prop) : List (Mode × PV) → List Value → Prop
  | nil : ArgsF Sl [] []
  | cons {md : Mode} {v : PV} {cv : Value} {as : List (Mode × PV)} {vs : List Value} (a : Sl md v cv) (r : ArgsF Sl as vs) : ArgsF Sl ((md, v) :: as) (cv :: vs)
inductive VsRep (h : Heap) (pub : Pubs) : List (Bool × PV) → List Value → Prop
  | nil : VsRep h pub [] []
  | cons {p : Bool} {v : PV} {cv : Value} {l : List (Bool × PV)} {cs : List Value} (a : ∀ ok, Oks p pub ok → VRep h ok v cv) (r : VsRep h pub l cs) : VsRep h pub ((p, v) :: l) (cv :: cs)
section
variable (T : Tab) (hb : Heap)
noncomputable def EOk (n : Nat) : Prop := ∀ A sc env vars (pub : Pubs) s e p v, Room A n → xE T n sc vars e = some (p, v) → Reads hb sc env pub vars s.heap → (∀ b, s.heap.get? b = none → pub.p b) →
  Gets A s (eval e env) (Oks p pub) v
noncomputable def OOk (n : Nat) : Prop := ∀ A sc env vars (pub : Pubs) s e v, Room A n → xO T n sc vars e = some v → Reads hb sc env pub vars s.heap → (∀ b, s.heap.get? b = none → pub.p b) →
  match v with
  | some v => Gets A s (evalPart e env) (Oks false pub) v
  | none => e = none
noncomputable def EsOk (n : Nat) : Prop := ∀ A sc env vars (pub : Pubs) s es vs, Room A n → xEs T n sc vars es = some vs → Reads hb sc env pub vars s.heap → (∀ b, s.heap.get? b = none → pub.p b) →
  ∀ pos (E : Value → Shared → Prop) (Q : List Value → Shared → Prop), (∀ cs h' tk, s.heap.StaysIn h' → VsRep h' pub vs cs → Q cs { s with heap := h', toks := tk }) →
    wpAny (model prog w) A (spliced (backTo pos (starEach es env))) Q E s
noncomputable def BoolsOk (n : Nat) : Prop := ∀ A sc env vars (pub : Pubs) s op es b, Room A n → xBools T n sc vars op es = some b → Reads hb sc env pub vars s.heap → (∀ b, s.heap.get? b = none → pub.p b) →
  ∀ pos, Gets A s (boolOp pos op (evalEach es env)) (Oks true pub) (.bool b)
noncomputable def Says (A : Around) (s : Shared) (t : Sem Bool) (b : Bool) : Prop := ∀ (E : Value → Shared → Prop) (Q : Bool → Shared → Prop), (∀ h' tk, s.heap.StaysIn h' → Q b { s with heap := h', toks := tk }) → wpAny (model prog w) A t Q E s
noncomputable def TOk (n : Nat) : Prop := ∀ A sc env vars (pub : Pubs) s e b, Room A n → xT T n sc vars e = some b → Reads hb sc env pub vars s.heap → (∀ b, s.heap.get? b = none → pub.p b) →
  Says A s (isTrue e env (eval e env)) b
noncomputable def TsOk (n : Nat) : Prop := ∀ A sc env vars (pub : Pubs) s op es b, Room A n → xTs T n sc vars op es = some b → Reads hb sc env pub vars s.heap → (∀ b, s.heap.get? b = none → pub.p b) →
  Says A s (allTrue op es env) b ∧ (op = .And → Says A s (forIn es true fun c r => if r = true then do let ok ← isTrue c env (eval c env); pure (ForInStep.yield ok) else pure (ForInStep.yield r)) b)
noncomputable def ChainOk (n : Nat) : Prop := ∀ A sc env vars (pub : Pubs) s a ops rs b ca, Room A n → xChain T n sc vars a ops rs = some b → Reads hb sc env pub vars s.heap → (∀ b, s.heap.get? b = none → pub.p b) →
  VRep s.heap (fun _ => True) a ca → ∀ pos, Gets A s (compareChain pos ca ops (evalEach rs env)) (Oks true pub) (.bool b) ∧ Says A s (testChain pos ca ops (evalEach rs env)) b
structure Turns (A : Around) (target : Expr) (I : Addr) (pi : Addr → Prop) (wr dep : Addr → Prop) (its : List PV) (St : Nat → Heap → Prop) : Prop where
  frame : ∀ (V : Addr → Prop) i h h', (∀ a, pi a → ¬ V a) → (∀ a, wr a → ¬ V a) → (∀ a, dep a → ¬ V a) → Kp V h h' → St i h → St i h'
  it : ∀ i h a, St i h → wr a → ItOb h a
  item : ∀ i x (s : Shared) (E : Value → Shared → Prop) (Q : Value → Shared → Prop), its[i]? = some x → St i s.heap →
    (∀ v h' tk, VRep h' pi x v → St (i + 1) h' → (∀ b o, ¬ wr b → s.heap.get? b = some o → h'.get? b = some o) → Q v { s with heap := h', toks := tk }) →
    wpAny (model prog w) A (pyNext (.ref I)) (fun r s₁ => ∃ v, r = some v ∧ wpAny (model prog w) A (letOwnedTupleGo target (.ref I) v) (fun _ s₂ => Q v s₂) E s₁) E s
  done : ∀ (s : Shared) (E : Value → Shared → Prop) (Q : Option Value → Shared → Prop), St its.length s.heap →
    (∀ h' tk, (∀ b o, ¬ wr b → s.heap.get? b = some o → h'.get? b = some o) → Q none { s with heap := h', toks := tk }) → wpAny (model prog w) A (pyNext (.ref I)) Q E s
  self : ∀ i (s : Shared) (E : Value → Shared → Prop) (Q : Value → Shared → Prop), St i s.heap → Q (.ref I) s → wpAny (model prog w) A (pyIter (.ref I)) Q E s
noncomputable def Pack (A : Around) (s : Shared) (target : Expr) (pub dk : Addr → Prop) (its : List PV) (it : Value) (s' : Shared) : Prop :=
  ∃ I wr dep St h' tk, it = .ref I ∧ s' = { s with heap := h', toks := tk } ∧ s.heap.StaysIn h' ∧ Turns A target I (fun a => pub a ∧ h'.get? a ≠ none) wr dep its St ∧ St 0 h' ∧
    (∀ a, wr a → s.heap.get? a = none) ∧ (∀ a, dep a → h'.get? a ≠ none ∧ (s.heap.get? a = none ∨ dk a))
noncomputable def IterOk (n : Nat) : Prop := ∀ A sc env vars (pub : Pubs) s target tup e its, Room A n → xIter T n sc vars tup e = some its → (tup = true → isTupT target = true) → Reads hb sc env pub vars s.heap → (∀ b, s.heap.get? b = none → pub.p b) →
  ∀ (E : Value → Shared → Prop) (Q : Value → Shared → Prop), (∀ it s', Pack A s target pub.p pub.nw its it s' → Q it s') → wpAny (model prog w) A (eval e env) (fun cv s₁ => wpAny (model prog w) A (pyIter cv) Q E s₁) E s
noncomputable def IterSOk (n : Nat) : Prop := ∀ A sc env pb nb lent vars val s target tup e its, Room A n → xIterS T n sc vars tup e = some its → (tup = true → isTupT target = true) → Frame hb sc env pb nb lent vars val s.heap →
  ∀ (E : Value → Shared → Prop) (Q : Value → Shared → Prop), (∀ it s', Pack A s target (fun a => (pb a ∧ nb a) ∧ ¬ Wr sc env vars val a) (fun a => ¬ Wr sc env vars val a) its it s' → Q it s') →
    wpAny (model prog w) A (eval e env) (fun cv s₁ => wpAny (model prog w) A (pyIter cv) Q E s₁) E s
noncomputable def BIOk (n : Nat) : Prop := ∀ A sc env vars (pub : Pubs) s b args v, Room A n → xBI T n sc vars b args = some v → Reads hb sc env pub vars s.heap → (∀ b, s.heap.get? b = none → pub.p b) →
  ∀ pos, Gets A s (callWith pos (biVal b) [] (backTo pos (starEach args env)) []) (Oks true pub) v
noncomputable def NoOwn (vars : Vars) : Prop := ∀ x md v, look x vars = some (md, v) → ownM md = false
noncomputable def Grown (sc : Scope) (env : Env) (pb nb : Addr → Prop) (lent : Addr) (D : Addr) (ys : Array Value) (W₀ : Addr → Prop) (s : Shared) (out : List PV) (vars' : Vars) (s' : Shared) : Prop :=
  ∃ h' tk val' zs, s' = { s with heap := h', toks := tk } ∧ Frame hb sc env pb nb lent vars' val' h' ∧ NoOwn vars' ∧ h'.PlainList D (ys ++ zs) ∧ VAll h' (fun a => (pb a ∧ nb a) ∧ ¬ Wc sc env a) out zs.toList ∧
    Kp W₀ s.heap h' ∧ (∀ a, h'.get? a = none → s.heap.get? a = none ∨ W₀ a)
noncomputable def emitTree (e elt : Expr) (gens : List Comprehension) (depth : Nat) (acc : Value) (env : Env) (k : Sem Fin) : Sem Fin :=
  match gens[depth + 1]? with
  | some g' => do
    let x ← eval g'.iter env
    standAt g'.iter.pos
    let x ← if g'.is_async != 0 then foldedIterable g'.iter x else foldedSetIterable g'.iter env x
    let _ ← runOwn (.compStart e (depth + 1) (← holding [x] (if g'.is_async != 0 then asyncIter x else pyIter x)) acc env) env
    k
  | none => (eval elt env >>= fun x => call (.builtin "list.append") [acc, x] >>= fun _ => pure ()) >>= fun (_ : Unit) => k
noncomputable def EltOk (n : Nat) : Prop := ∀ A sc env pb nb lent vars val s elt gens scope0 pos0 depth rest D ys out vars', Room A n → xElt T n sc vars rest elt = some (out, vars') → gens.drop (depth + 1) = rest →
  Frame hb sc env pb nb lent vars val s.heap → NoOwn vars → s.heap.PlainList D ys → ¬ nb D → ys.size + out.length ≤ 1000000 → hb.get? D = none → ∀ (k : Sem Fin) (E : Value → Shared → Prop) (Q : Fin → Shared → Prop),
  (∀ s', Grown hb sc env pb nb lent D ys (fun a => Wc sc env a ∨ a = D) s out vars' s' → wpAny (model prog w) A k Q E s') → wpAny (model prog w) A (emitTree (.ListComp elt gens scope0 pos0) elt gens depth (.ref D) env k) Q E s
noncomputable def CompOk (n : Nat) : Prop := ∀ A sc env pb nb lent vars val s target iter ifs elt gens scope0 pos0 depth rest D ys out vars' I pi wr dep its St i, Room A n → xComp T n sc vars target ifs rest elt (its.drop i) = some (out, vars') →
  gens[depth]? = some ⟨target, iter, ifs, 0⟩ → gens.drop (depth + 1) = rest →
  Frame hb sc env pb nb lent vars val s.heap → NoOwn vars → s.heap.PlainList D ys → ¬ nb D → ys.size + out.length ≤ 1000000 →
  Turns A target I pi wr dep its St → St i s.heap → i ≤ its.length → (∀ a, pi a → (pb a ∧ nb a) ∧ ¬ Wc sc env a) → (∀ a, wr a → ¬ Wc sc env a ∧ a ≠ D) → (∀ a, dep a → ¬ Wc sc env a ∧ a ≠ D) → (∀ a, wr a → hb.get? a = none) → hb.get? D = none → (∀ a, wr a → pb a ∧ nb a) →
  ∀ (R : Result → Shared → Prop), (∀ s', Grown hb sc env pb nb lent D ys (fun a => Wc sc env a ∨ a = D ∨ wr a) s out vars' s' → R (.ok .next) s') →
    codeAny (model prog w) A (.compLoop (.ListComp elt gens scope0 pos0) depth (.ref I) (.ref D) env) R s
noncomputable def ArgsRep (h : Heap) (pub : Pubs) : List (Mode × PV) → List Value → Prop := ArgsF fun md v cv => ownM md = false ∧ VRep h (fun _ => True) v cv ∧ (md = .P → VRep h pub.p v cv)
noncomputable def CallOk (n : Nat) : Prop := ∀ A fn as v a s vals (pub : Pubs), Room A n → xCall T n fn as = some v → (∃ x, tabLook x T = some fn) → FnAt hb a fn → hb.StaysIn s.heap → ArgsRep s.heap pub as vals → (∀ b, s.heap.get? b = none → pub.p b) →
  Gets A s (call (.ref a) vals) (Oks true pub) v
noncomputable def After (sc : Scope) (env : Env) (pb nb : Addr → Prop) (lent : Addr) (W₀ : Addr → Prop) (s : Shared) (r : Res) (f : Flow) (s' : Shared) : Prop :=
  ∃ h' tk, s' = { s with heap := h', toks := tk } ∧ match r with
    | .next vars' => f = .next ∧ ∃ val', Frame hb sc env pb nb lent vars' val' h' ∧ Adv W₀ s.heap (Wr sc env vars' val') h'
    | .ret v => ∃ cv, f = .ret cv ∧ VRep h' (fun _ => True) v cv ∧ VRep h' pb v cv ∧ Kp W₀ s.heap h' ∧ ∀ a, h'.get? a = none → s.heap.get? a = none ∨ W₀ a
noncomputable def SsOk (n : Nat) : Prop := ∀ A sc env pb nb lent vars val s body r, Room A n → xSs T n sc vars body = some r → Frame hb sc env pb nb lent vars val s.heap → ∀ (E : Value → Shared → Prop) (Q : Flow → Shared → Prop),
  (∀ f s', After hb sc env pb nb lent (Wr sc env vars val) s r f s' → Q f s') → wpAny (model prog w) A (execs body env) Q E s
noncomputable def SOk (n : Nat) : Prop := ∀ A sc env pb nb lent vars val s st r, Room A n → xS T n sc vars st = some r → Frame hb sc env pb nb lent vars val s.heap → ∀ (E : Value → Shared → Prop) (Q : Flow → Shared → Prop),
  (∀ f s', After hb sc env pb nb lent (Wr sc env vars val) s r f s' → Q f s') → wpAny (model prog w) A (exec st env) Q E s
noncomputable def WhileOk (n : Nat) : Prop := ∀ A sc env pb nb lent vars val s test body r, Room A n → xWhile T n sc vars test body = some r → Frame hb sc env pb nb lent vars val s.heap → ∀ (R : Result → Shared → Prop),
  (∀ f s', After hb sc env pb nb lent (Wr sc env vars val) s r f s' → R (.ok f) s') → codeAny (model prog w) A (.whileLoop test body [] env) R s
noncomputable def ForOk (n : Nat) : Prop := ∀ A sc env pb nb lent vars val s target body r I pi wr dep its St i, Room A n → xFor T n sc vars target body (its.drop i) = some r → Frame hb sc env pb nb lent vars val s.heap →
  Turns A target I pi wr dep its St → St i s.heap → i ≤ its.length → (∀ a, pi a → (pb a ∧ nb a) ∧ ¬ Wr sc env vars val a ∧ s.heap.get? a ≠ none) → (∀ a, wr a → ¬ Wr sc env vars val a) → (∀ a, dep a → ¬ Wr sc env vars val a ∧ s.heap.get? a ≠ none) → (∀ a, wr a → hb.get? a = none) → (∀ a, wr a → pb a ∧ nb a) →
  ∀ (R : Result → Shared → Prop), (∀ f s', After hb sc env pb nb lent (fun a => Wr sc env vars val a ∨ wr a) s r f s' → R (.ok f) s') → codeAny (model prog w) A (.forLoop target (.ref I) body [] env) R s
noncomputable def SlotGot (h₀ h : Heap) (pub : Addr → Prop) (md : Mode) (v : PV) (cv : Value) : Prop :=
  (md = .P ∧ VRep h pub v cv) ∨ (md = .O ∧ okItems v = true ∧ ∃ a, cv = .ref a ∧ VRep h (fun b => b = a) v cv ∧ h₀.get? a = none)
noncomputable def SlotOk (n : Nat) : Prop := ∀ A sc env vars (pub : Pubs) s e md v, Room A n → xSlot T n sc vars e = some (md, v) → Reads hb sc env pub vars s.heap → (∀ b, s.heap.get? b = none → pub.p b) →
  ∀ (E : Value → Shared → Prop) (Q : Value → Shared → Prop), (∀ cv h' tk, s.heap.StaysIn h' → SlotGot s.heap h' pub.p md v cv → Q cv { s with heap := h', toks := tk }) → wpAny (model prog w) A (eval e env) Q E s
inductive SlotsGot (h₀ h : Heap) : (Addr → Prop) → List (Mode × PV) → List Value → List Addr → Prop
  | nil {pub : Addr → Prop} : SlotsGot h₀ h pub [] [] []
  | pub {pub : Addr → Prop} {v : PV} {cv : Value} {ss : List (Mode × PV)} {cs : List Value} {D : List Addr} (a : VRep h (fun a => pub a ∧ a ∉ D) v cv) (r : SlotsGot h₀ h pub ss cs D) : SlotsGot h₀ h pub ((.P, v) :: ss) (cv :: cs) D
  | own {pub : Addr → Prop} {v : PV} {a : Addr} {ss : List (Mode × PV)} {cs : List Value} {D : List Addr} (hi : okItems v = true) (hr : VRep h (fun b => b = a) v (.ref a)) (hn : h₀.get? a = none) (hd : a ∉ D)
      (r : SlotsGot h₀ h (fun b => pub b ∧ b ≠ a) ss cs D) : SlotsGot h₀ h pub ((.O, v) :: ss) (.ref a :: cs) (a :: D)
noncomputable def SlotsOk (n : Nat) : Prop := ∀ A sc env vars (pub : Pubs) s es ss, Room A n → xSlots T n sc vars es = some ss → Reads hb sc env pub vars s.heap → (∀ b, s.heap.get? b = none → pub.p b) →
  ∀ pos (E : Value → Shared → Prop) (Q : List Value → Shared → Prop), (∀ cs h' tk D, s.heap.StaysIn h' → SlotsGot s.heap h' pub.p ss cs D → (∀ a ∈ D, h'.get? a ≠ none) → Q cs { s with heap := h', toks := tk }) →
    wpAny (model prog w) A (spliced (backTo pos (starEach es env))) Q E s
structure Snd (n : Nat) : Prop where
  e : EOk T hb n
  o : OOk T hb n
  es : EsOk T hb n
  bools : BoolsOk T hb n
  t : TOk T hb n
  ts : TsOk T hb n
  chain : ChainOk T hb n
  iter : IterOk T hb n
  iterS : IterSOk T hb n
  bi : BIOk T hb n
  comp : CompOk T hb n
  elt : EltOk T hb n
  call : CallOk T hb n
  ss : SsOk T hb n
  slot : SlotOk T hb n
  slots : SlotsOk T hb n
  s : SOk T hb n
  for_ : ForOk T hb n
  while_ : WhileOk T hb n
end
end Mine
namespace Mine
open PySem PySem.Calls PyProof.Rows PySem.W PySem.SeqAt
section
variable {T : Tab} {hb h : Heap} {n : Nat} {A : Around} {sc : Scope} {env : Env} {vars : Vars} {pub : Pubs} {s : Shared} {p : Bool} {v : PV}
theorem fresh_stays {h' : Heap} (F : ∀ b, h.get? b = none → pub.p b) (st : h.StaysIn h') : ∀ b, h'.get? b = none → pub.p b := fun b e => F b (none_of_stays st e)
theorem Oks.fresh (F : ∀ b, s.heap.get? b = none → pub.p b) : FreshOk s (Oks p pub) := fun ok o => by
  rcases o with rfl | rfl | ⟨_, rfl⟩
  · exact fun _ _ => trivial
  · exact fun b e => pub.sub b (F b e)
  · exact F
theorem Oks.le {p q : Bool} (h : q = true → p = true) {ok} (o : Oks q pub ok) : Oks p pub ok := o.imp id fun x => x.imp id fun x => ⟨h x.1, x.2⟩
theorem itOf {c : Value} (r : ∀ ok, Oks p pub ok → VRep h ok v c) (hd : ∀ ks vs, v ≠ .dict ks vs) {q : Bool} (hq : q = true → (p || okItems v) = true) : ∀ ok, Oks q pub ok → VIt h ok v c := fun ok o => by
  rcases o with rfl | rfl | ⟨hp, rfl⟩
  · exact (r _ .T).it
  · exact (r _ .N).it
  · have := hq hp
    cases p with
    | true => exact (r _ .P).it
    | false => exact (r _ .T).it_ok (by simpa using this) hd
theorem Gets.flag {t : Sem Value} {q : Bool} (g : Gets A s t (Oks p pub) v) (hq : q = true → p = true ∨ v.imm = true) : Gets A s t (Oks q pub) v := fun E Q k => g E Q fun cv h' tk st r => k cv h' tk st fun ok o => by
  rcases o with rfl | rfl | ⟨hp, rfl⟩
  · exact r _ .T
  · exact r _ .N
  · rcases hq hp with e | e
    · exact r _ (.inr (.inr ⟨e, rfl⟩))
    · exact imm_any e (r _ .T)
theorem intPs_nodict {a b r : PV} {f : Int → Int → Option PV} (e : intPs a b f = some r) : (∀ ks vs, a ≠ .dict ks vs) ∧ ∀ ks vs, b ≠ .dict ks vs := by
  obtain ⟨i, j, rfl, rfl, _⟩ := intPs_some e
  exact ⟨nofun, nofun⟩
theorem bin_nodict {op : Operator} {a b r : PV} (e : evalBin op a b = some r) : (∀ ks vs, a ≠ .dict ks vs) ∧ ∀ ks vs, b ≠ .dict ks vs := by
  cases op with
  | Add => exact ⟨by rintro ks vs rfl; exact noS e, by rintro ks vs rfl; cases a <;> exact noS e⟩
  | Mult =>
    refine ⟨by rintro ks vs rfl; exact noS e, ?_⟩
    rintro ks vs rfl
    cases a with
    | _ => exact noS e
  | Sub => exact intPs_nodict e
  | FloorDiv => exact intPs_nodict e
  | Mod => exact intPs_nodict e
  | _ => exact noS e
theorem e_const {c : Const} {k pos} {v : PV} (e : constV c = some v) : Gets A s (eval (.Constant c k pos) env) (Oks true pub) v := by
  cases c with
  | none => cases e; exact fun E Q q => wpAny_Constant_none (q _ s.heap s.toks (stays_refl _) fun _ _ => .none)
  | bool => cases e; exact fun E Q q => wpAny_Constant_bool (q _ s.heap s.toks (stays_refl _) fun _ _ => .bool _)
  | int => cases e; exact fun E Q q => wpAny_Constant_int (q _ s.heap _ (stays_refl _) fun _ _ => .int _ _)
  | str => cases e; exact fun E Q q => wpAny_Constant_str (q _ s.heap _ (stays_refl _) fun _ _ => .str _ _ rfl)
  | _ => exact noS e
theorem readP_kind {k : Option NameKind} {sl : Option (Mode × PV)} {r : Bool × PV} (e : readP k sl = some r) : ∃ md, sl = some (md, r.2) ∧ (k = some .local ∨ k = some .cell ∨ k = some .free) ∧ (r.1 = true → md = .P ∨ r.2.imm = true) := by
  have g : ∀ {k : Option NameKind}, (sl.map fun s => (decide (s.1 = .P) || s.2.imm, s.2)) = some r → (k = some .local ∨ k = some .cell ∨ k = some .free) → ∃ md, sl = some (md, r.2) ∧ (k = some .local ∨ k = some .cell ∨ k = some .free) ∧ (r.1 = true → md = .P ∨ r.2.imm = true) := fun e hk => by
    cases sl with
    | none => exact noS e
    | some x =>
      cases (show some (decide (x.1 = .P) || x.2.imm, x.2) = some r from e)
      exact ⟨x.1, rfl, hk, fun q => (Bool.or_eq_true_iff.mp q).imp of_decide_eq_true id⟩
  cases k with
  | none => exact noS e
  | some k =>
    cases k with
    | «local» => exact g e (.inl rfl)
    | cell => exact g e (.inr (.inl rfl))
    | free => exact g e (.inr (.inr rfl))
    | _ => exact noS e
theorem oddName_no {x : Str} (h : ¬ oddName x = true) : (x == ("__debug__" : Str)) = false ∧ x ≠ "__classdict__" := by
  unfold oddName at h
  simp only [Bool.or_eq_true, not_or, Bool.not_eq_true] at h
  refine ⟨?_, fun e => ?_⟩
  · cases q : (x == ("__debug__" : Str)) with
    | false => rfl
    | true => have := strEq_iff.mpr (beq_iff_eq.mp q); rw [h.1] at this; cases this
  · have := strEq_iff.mpr e; rw [h.2] at this; cases this
theorem e_name {x : Str} {pos} (R : Reads hb sc env pub vars s.heap) (ho : ¬ oddName x = true) (e : readP (kindIn x sc.names) (look x vars) = some (p, v)) : Gets A s (eval (.Name x pos) env) (Oks p pub) v := by
  obtain ⟨md, hl, hk, hp⟩ := readP_kind e
  obtain ⟨hd, hc⟩ := oddName_no ho
  obtain ⟨cv, r1, r2, ld⟩ := R.load (M := model prog w) (A := A) hl hk hc
  refine fun E Q q => wpAny_Name (ld E Q (q cv s.heap s.toks (stays_refl _) fun ok o => ?_)) hd
  rcases o with rfl | rfl | ⟨hp', rfl⟩
  · exact r1.weaken fun _ _ => trivial
  · exact r1
  · rcases hp hp' with e | e
    · exact r2 e
    · exact imm_any e r1
theorem e_bin (ih : Snd T hb n) {l r : Expr} {op : Operator} {pos} {a b : Bool × PV} (rm : Room A n) (R : Reads hb sc env pub vars s.heap) (F : ∀ b, s.heap.get? b = none → pub.p b)
    (ha : xE T n sc vars l = some a) (hb' : xE T n sc vars r = some b) (hv : evalBin op a.2 b.2 = some v) :
    Gets A s (eval (.BinOp l op r pos) env) (Oks ((a.1 || okItems a.2) && (b.1 || okItems b.2)) pub) v := by
  obtain ⟨n1, n2⟩ := bin_nodict hv
  refine fun E Q q => wpAny_BinOp (ih.e A sc env vars pub s l a.1 a.2 rm ha R F E _ fun c1 h1 tk1 st1 r1 => ?_)
  refine ih.e A sc env vars pub { s with heap := h1, toks := tk1 } r b.1 b.2 rm hb' (R.stays st1) (fresh_stays F st1) E _ fun c2 h2 tk2 st2 r2 => ?_
  have F2 := fresh_stays (fresh_stays F st1) st2
  refine bin_sound (s := { s with heap := h2, toks := tk2 }) (Ok := Oks ((a.1 || okItems a.2) && (b.1 || okItems b.2)) pub) .T (Oks.fresh (s := { s with heap := h2, toks := tk2 }) F2) hv (itOf (fun ok o => (r1 ok o).stays st2 fun _ x => x) n1 fun e => ?_) (itOf r2 n2 fun e => ?_) E Q fun cv h3 tk3 st3 r3 => q cv h3 tk3 (stays_trans (stays_trans st1 st2) st3) r3
  · exact (Bool.and_eq_true_iff.mp e).1
  · exact (Bool.and_eq_true_iff.mp e).2
theorem e_neg (ih : Snd T hb n) {x : Expr} {pos} {a : Bool × PV} (rm : Room A n) (R : Reads hb sc env pub vars s.heap) (F : ∀ b, s.heap.get? b = none → pub.p b)
    (ha : xE T n sc vars x = some a) (hv : negP a.2 = some v) : Gets A s (eval (.UnaryOp .USub x pos) env) (Oks true pub) v := by
  cases hi : a.2 with
  | int i =>
    rw [hi] at hv
    have hv : (if smallI i = true then some (PV.int (-i)) else none) = some v := hv
    split at hv
    · cases hv
      refine fun E Q q => wpAny_UnaryOp (ih.e A sc env vars pub s x a.1 a.2 rm ha R F E _ fun c1 h1 tk1 st1 r1 => ?_)
      have := r1 _ .T
      rw [hi] at this
      obtain ⟨t, rfl⟩ := this.int_inv
      exact neg_int (q _ h1 _ st1 fun _ _ => .int _ _)
    · exact noS hv
  | _ => rw [hi] at hv; exact noS hv
theorem e_ifexp (ih : Snd T hb n) {t a b : Expr} {pos} {c : Bool} (rm : Room A n) (R : Reads hb sc env pub vars s.heap) (F : ∀ b, s.heap.get? b = none → pub.p b)
    (ht : xT T n sc vars t = some c) (hv : (bif c then xE T n sc vars a else xE T n sc vars b) = some (p, v)) : Gets A s (eval (.IfExp t a b pos) env) (Oks p pub) v := by
  refine fun E Q q => wpAny_IfExp (ih.t A sc env vars pub s t c rm ht R F E _ fun h1 tk1 st1 => ?_)
  cases c with
  | true => exact ih.e A sc env vars pub { s with heap := h1, toks := tk1 } a p v rm hv (R.stays st1) (fresh_stays F st1) E Q fun cv h2 tk2 st2 r2 => q cv h2 tk2 (stays_trans st1 st2) r2
  | false => exact ih.e A sc env vars pub { s with heap := h1, toks := tk1 } b p v rm hv (R.stays st1) (fresh_stays F st1) E Q fun cv h2 tk2 st2 r2 => q cv h2 tk2 (stays_trans st1 st2) r2
theorem eval_Compare (l : Expr) (ops : List CmpOp) (rs : List Expr) (pos : Pos) : eval (.Compare l ops rs pos) env = (do compareChain pos (← eval l env) ops (markedEach ops rs (evalEach rs env))) := rfl
theorem isTrue_Compare (l : Expr) (ops : List CmpOp) (rs : List Expr) (pos : Pos) (whole : Sem Value) : isTrue (.Compare l ops rs pos) env whole = (do testChain pos (← eval l env) ops (markedEach ops rs (evalEach rs env))) := rfl
theorem e_cmp (ih : Snd T hb n) {l : Expr} {ops : List CmpOp} {rs : List Expr} {pos} {a : Bool × PV} {b : Bool} (rm : Room A n) (R : Reads hb sc env pub vars s.heap) (F : ∀ b, s.heap.get? b = none → pub.p b)
    (hm : ¬ lastMarks ops rs = true) (ha : xE T n sc vars l = some a) (hc : xChain T n sc vars a.2 ops rs = some b) : Gets A s (eval (.Compare l ops rs pos) env) (Oks true pub) (.bool b) := by
  rw [eval_Compare, markedEach_of_false _ _ _ (by simpa using hm)]
  refine fun E Q q => wpAny_bind (ih.e A sc env vars pub s l a.1 a.2 rm ha R F E _ fun c1 h1 tk1 st1 r1 => ?_)
  exact (ih.chain A sc env vars pub { s with heap := h1, toks := tk1 } a.2 ops rs b c1 rm hc (R.stays st1) (fresh_stays F st1) (r1 _ .T) pos).1 E Q fun cv h2 tk2 st2 r2 => q cv h2 tk2 (stays_trans st1 st2) r2
theorem t_cmp (ih : Snd T hb n) {l : Expr} {ops : List CmpOp} {rs : List Expr} {pos} {a : Bool × PV} {b : Bool} (rm : Room A n) (R : Reads hb sc env pub vars s.heap) (F : ∀ b, s.heap.get? b = none → pub.p b)
    (hm : ¬ lastMarks ops rs = true) (ha : xE T n sc vars l = some a) (hc : xChain T n sc vars a.2 ops rs = some b) (whole : Sem Value) : Says A s (isTrue (.Compare l ops rs pos) env whole) b := by
  rw [isTrue_Compare, markedEach_of_false _ _ _ (by simpa using hm)]
  refine fun E Q q => wpAny_bind (ih.e A sc env vars pub s l a.1 a.2 rm ha R F E _ fun c1 h1 tk1 st1 r1 => ?_)
  exact (ih.chain A sc env vars pub { s with heap := h1, toks := tk1 } a.2 ops rs b c1 rm hc (R.stays st1) (fresh_stays F st1) (r1 _ .T) pos).2 E Q fun h2 tk2 st2 => q h2 tk2 (stays_trans st1 st2)
theorem VsRep.len {l : List (Bool × PV)} {cs : List Value} (r : VsRep h pub l cs) : l.length = cs.length := by induction r with | nil => rfl | cons _ _ ih => simp [ih]
theorem VsRep.all {l : List (Bool × PV)} {cs : List Value} (r : VsRep h pub l cs) {q : Bool} (hq : q = true → l.all (·.1) = true) : ∀ ok, Oks q pub ok → VAll h ok (l.map (·.2)) cs := by
  induction r with
  | nil => exact fun _ _ => .nil
  | @cons p v cv l cs a _ ih => exact fun ok o => .cons (a ok (o.le fun e => by have := hq e; simp at this; exact this.1)) (ih (fun e => by have := hq e; simp at this; simpa using this.2) ok o)
theorem e_tuple (ih : Snd T hb n) {es : List Expr} {k pos} {vs : List (Bool × PV)} (rm : Room A n) (R : Reads hb sc env pub vars s.heap) (F : ∀ b, s.heap.get? b = none → pub.p b)
    (ha : xEs T n sc vars es = some vs) (hv : tupP vs = some (p, v)) : Gets A s (eval (.Tuple es k pos) env) (Oks p pub) v := by
  unfold tupP at hv
  split at hv
  · rename_i hz
    cases hv
    refine fun E Q q => wpAny_Tuple (ih.es A sc env vars pub s es vs rm ha R F pos E _ fun cs h1 tk1 st1 r1 => ⟨?_, ?_⟩)
    · rw [← r1.len]; exact szOk_le hz
    · exact q _ _ tk1 (stays_trans st1 (stays_push _ _)) fun ok o => .tup ⟨0, Heap.get?_push_size _ rfl⟩ ((r1.all id ok o).stays (stays_push _ _) fun _ x => x)
  · cases hv
theorem e_list (ih : Snd T hb n) {es : List Expr} {pos} {vs : List (Bool × PV)} (rm : Room A n) (R : Reads hb sc env pub vars s.heap) (F : ∀ b, s.heap.get? b = none → pub.p b)
    (ha : xEs T n sc vars es = some vs) (hv : listP vs = some (p, v)) : Gets A s (eval (.List es pos) env) (Oks p pub) v := by
  unfold listP at hv
  split at hv
  · rename_i hz
    simp only [Bool.and_eq_true] at hz
    cases hv
    refine fun E Q q => wpAny_List (ih.es A sc env vars pub s es vs rm ha R F pos E _ fun cs h1 tk1 st1 r1 => ⟨?_, ?_⟩)
    · rw [← r1.len]; exact szOk_le hz.2
    · refine q _ _ tk1 (stays_trans st1 (stays_push _ _)) fun ok o => .list ?_ ⟨0, Heap.get?_push_size _ rfl⟩ ((r1.all (fun _ => hz.1) ok o).stays (stays_push _ _) fun _ x => x)
      have := Oks.fresh (p := true) (s := { s with heap := h1, toks := tk1 }) (fresh_stays F st1) ok o
      exact this _ (fresh_none _)
  · cases hv
end
end Mine
namespace Mine
open PySem PySem.Calls PyProof.Rows PySem.W PySem.SeqAt
section
variable {T : Tab} {hb h : Heap} {n : Nat} {A : Around} {sc : Scope} {env : Env} {vars : Vars} {pub : Pubs} {s : Shared} {p : Bool} {v : PV}
theorem Room.cmp (r : Room A n) : A.units + 8 < cLine := by have := r.u; (first | with_reducible exact Nat.le_trans (by assumption) (by decide) | lia | omega)
theorem sub_sound {a k : PV} {ca ck : Value} {p : Bool} {value slice : Expr} (rm : Room A n) (e : evalSub a k = some v) (ra : ∀ ok, Oks p pub ok → VRep s.heap ok a ca) (rk : VRep s.heap (fun _ => True) k ck) :
    Gets A s (subscriptTail value slice ca ck) (Oks p pub) v := by
  cases a with
  | list l =>
    obtain ⟨i, hi, e2⟩ := bnd (show (intP k).bind (fun i => if smallI i = true then nth l i else none) = some v from e)
    obtain rfl := intP_eq hi
    obtain ⟨hs, e2⟩ := ifO e2
    obtain ⟨t, rfl⟩ := rk.int_inv
    obtain ⟨g, hT⟩ := getItem_list_sound (Ok := Oks p pub) .T hs (fun ok o => (ra ok o).it) e2
    exact subTail hT PySem.slot_list_getitem.lookup g
  | str l =>
    obtain ⟨i, hi, e2⟩ := bnd (show (intP k).bind (fun i => if smallI i = true then (nth l i).bind (fun c => some (PV.str [c])) else none) = some v from e)
    obtain rfl := intP_eq hi
    obtain ⟨hs, e2⟩ := ifO e2
    obtain ⟨t, rfl⟩ := rk.int_inv
    obtain ⟨c, q, e2⟩ := bnd e2
    cases e2
    obtain ⟨g, hT⟩ := getItem_str_sound (Ok := Oks p pub) hs (ra _ .T) q
    exact subTail hT PyProof.Rows.slot_str_getitem.lookup g
  | dict ks vs =>
    obtain ⟨hk, e⟩ := ifO (show (if keyP k = true then (getD2 k ks vs).bind id else none) = some v from e)
    obtain ⟨o, q, e⟩ := bnd e
    cases (show o = some v from e)
    obtain ⟨g, hT⟩ := getItem_dict_sound (A := A) (Ok := Oks p pub) (by have := rm.u; (first | with_reducible exact Nat.le_trans (by assumption) (by decide) | lia | omega)) .T ra hk rk q
    exact subTail hT PySem.slot_dict_getitem.lookup g
  | _ => exact noS e
theorem e_sub (ih : Snd T hb n) {value slice : Expr} {pos} {a k : Bool × PV} (rm : Room A n) (R : Reads hb sc env pub vars s.heap) (F : ∀ b, s.heap.get? b = none → pub.p b)
    (ha : xE T n sc vars value = some a) (hk : xE T n sc vars slice = some k) (hv : evalSub a.2 k.2 = some v) : Gets A s (eval (.Subscript value slice pos) env) (Oks (a.1 || v.imm) pub) v := by
  refine fun E Q q => Subscript_ (ih.e A sc env vars pub s value a.1 a.2 rm ha R F E _ fun c1 h1 tk1 st1 r1 => ?_)
  refine ih.e A sc env vars pub { s with heap := h1, toks := tk1 } slice k.1 k.2 rm hk (R.stays st1) (fresh_stays F st1) E _ fun c2 h2 tk2 st2 r2 => ?_
  have g : Gets A { s with heap := h2, toks := tk2 } (subscriptTail value slice c1 c2) (Oks a.1 pub) v := sub_sound rm hv (fun ok o => (r1 ok o).stays st2 fun _ x => x) (r2 _ .T)
  exact (g.flag fun e => by simpa using e) E Q fun cv h3 tk3 st3 r3 => q cv h3 tk3 (stays_trans (stays_trans st1 st2) st3) r3
noncomputable def PartRep (h : Heap) : Option PV → Value → Prop
  | some v, c => VRep h (fun _ => True) v c
  | none, c => c = .none
theorem bound_part {o : Option PV} {b : Option Int} {c : Value} (e : bound? o = some b) (hc : PartRep h o c) : ∃ q : Option (Int × Tok), q.map (·.1) = b ∧ c = partValue q ∧ IsPart (partValue q) b := by
  cases o with
  | none => cases e; exact ⟨none, rfl, hc, .none⟩
  | some v =>
    cases v with
    | int i =>
      obtain ⟨_, rfl⟩ := ifS (show (if smallI i = true then some (some i) else none) = some b from e)
      obtain ⟨t, rfl⟩ := VRep.int_inv hc
      exact ⟨some (i, t), rfl, rfl, .int _ _⟩
    | _ => exact noS e
theorem cut_sound {a r : PV} {ca : Value} {p : Bool} {sl : Addr} {lo hi : Option Int} {ql qh : Option (Int × Tok)} {value slice : Expr} (F : ∀ b, s.heap.get? b = none → pub.p b)
    (e : evalCut a lo hi = some r) (el : ql.map (·.1) = lo) (eh : qh.map (·.1) = hi) (pl : IsPart (partValue ql) lo) (ph : IsPart (partValue qh) hi)
    (hs : s.heap.IsSliceOf sl (partValue ql) (partValue qh) .none) (ra : ∀ ok, Oks p pub ok → VRep s.heap ok a ca) :
    Gets A s (subscriptTail value slice ca (.ref sl)) (Oks (p || okItems a) pub) r := by
  have nd : ∀ ks vs, a ≠ .dict ks vs := by
    rintro ks vs rfl; exact noS e
  have it := itOf (q := p || okItems a) ra nd id
  cases a with
  | list l =>
      obtain ⟨hz, rfl⟩ := ifS (show (if szOk l.length = true then some (PV.list (cut l lo hi)) else none) = some r from e)
      have g := cutList_sound (A := A) (Ok := Oks (p || okItems (.list l)) pub) .T (Oks.fresh F) hs pl ph hz it
      obtain ⟨a', items, rfl, hl, _⟩ := VIt.lists .T it
      exact subTail (T := "list") hl.isList.typeIs PySem.slot_list_getitem.lookup g
  | str l =>
      obtain ⟨hz, rfl⟩ := ifS (show (if szOk l.length = true then some (PV.str (cut l lo hi)) else none) = some r from e)
      have hs' : s.heap.IsSlice sl ql qh none := hs
      have g := cutStr_sound (A := A) (Ok := Oks (p || okItems (.str l)) pub) hs' hz (ra _ .T)
      rw [el, eh] at g
      obtain ⟨x, t, rfl, _⟩ := (ra _ .T).str_inv
      exact subTail (typeIs_str s x t) PyProof.Rows.slot_str_getitem.lookup g
  | _ => exact noS e
theorem e_cut (ih : Snd T hb n) {value : Expr} {lo hi : Option Expr} {pos sp} {a : Bool × PV} {l u : Option PV} {r : Bool × PV} (rm : Room A n) (R : Reads hb sc env pub vars s.heap) (F : ∀ b, s.heap.get? b = none → pub.p b)
    (ha : xE T n sc vars value = some a) (hl : xO T n sc vars lo = some l) (hu : xO T n sc vars hi = some u) (hv : cutP a l u = some r) :
    Gets A s (eval (.Subscript value (.Slice lo hi none sp) pos) env) (Oks r.1 pub) r.2 := by
  unfold cutP at hv
  split at hv
  · rename_i bl bu ebl ebu
    cases hr : evalCut a.2 bl bu with
    | none => rw [hr] at hv; cases hv
    | some x =>
      rw [hr] at hv; cases hv
      have part : ∀ (s : Shared) (oe : Option Expr) (o : Option PV), xO T n sc vars oe = some o → Reads hb sc env pub vars s.heap → (∀ b, s.heap.get? b = none → pub.p b) →
          ∀ (E : Value → Shared → Prop) (Q : Value → Shared → Prop), (∀ c h' tk, s.heap.StaysIn h' → PartRep h' o c → Q c { s with heap := h', toks := tk }) → wpAny (model prog w) A (evalPart oe env) Q E s := by
        intro s oe o ho R F E Q q
        have := ih.o A sc env vars pub s oe o rm ho R F
        cases o with
        | none => simp only at this; subst this; exact wpAny_pure (q _ s.heap s.toks (stays_refl _) rfl)
        | some v => exact this E Q fun c h' tk st r => q c h' tk st (r _ .T)
      refine fun E Q q => Subscript_ (ih.e A sc env vars pub s value a.1 a.2 rm ha R F E _ fun c1 h1 tk1 st1 r1 => ?_)
      refine wpAny_Slice (part { s with heap := h1, toks := tk1 } lo l hl (R.stays st1) (fresh_stays F st1) E _ fun c2 h2 tk2 st2 r2 => ?_)
      refine part { s with heap := h2, toks := tk2 } hi u hu ((R.stays st1).stays st2) (fresh_stays (fresh_stays F st1) st2) E _ fun c3 h3 tk3 st3 r3 => ?_
      obtain ⟨q1, e1, rfl, p1⟩ := bound_part ebl r2
      obtain ⟨q2, e2, rfl, p2⟩ := bound_part ebu r3
      refine wpAny_pure ?_
      have stp := stays_push h3 { cls := .type "slice", data := .fields #[partValue q1, partValue q2, .none] }
      have g := cut_sound (A := A) (s := { s with heap := h3.push { cls := .type "slice", data := .fields #[partValue q1, partValue q2, .none] }, toks := tk3 }) (value := value) (slice := .Slice lo hi none sp)
        (fresh_stays (fresh_stays (fresh_stays (fresh_stays F st1) st2) st3) stp) hr e1 e2 p1 p2 (Heap.IsSliceOf.new h3 _ _ _)
        (fun ok o => (((r1 ok o).stays st2 fun _ x => x).stays st3 fun _ x => x).stays stp fun _ x => x)
      exact g E Q fun cv h4 tk4 st4 r4 => q cv h4 tk4 (stays_trans (stays_trans (stays_trans (stays_trans st1 st2) st3) stp) st4) r4
  · cases hv
theorem rev_sound {a r : PV} {ca : Value} {p : Bool} {sl : Addr} {u : Tok} {value slice : Expr} (F : ∀ b, s.heap.get? b = none → pub.p b)
    (e : evalRev a = some r) (hs : s.heap.IsSliceOf sl .none .none (.int (-1) u)) (ra : ∀ ok, Oks p pub ok → VRep s.heap ok a ca) :
    Gets A s (subscriptTail value slice ca (.ref sl)) (Oks (p || okItems a) pub) r := by
  have nd : ∀ ks vs, a ≠ .dict ks vs := by
    rintro ks vs rfl; exact noS e
  have it := itOf (q := p || okItems a) ra nd id
  cases a with
  | list l =>
      obtain ⟨hz, rfl⟩ := ifS (show (if szOk l.length = true then some (PV.list l.reverse) else none) = some r from e)
      have g := revList_sound (A := A) (Ok := Oks (p || okItems (.list l)) pub) .T (Oks.fresh F) hs hz it
      obtain ⟨a', items, rfl, hl, _⟩ := VIt.lists .T it
      exact subTail (T := "list") hl.isList.typeIs PySem.slot_list_getitem.lookup g
  | str l =>
      obtain ⟨hz, rfl⟩ := ifS (show (if szOk l.length = true then some (PV.str l.reverse) else none) = some r from e)
      have hs' : s.heap.IsSlice sl none none (some (-1, u)) := hs
      have g := revStr_sound (A := A) (Ok := Oks (p || okItems (.str l)) pub) hs' hz (ra _ .T)
      obtain ⟨x, t, rfl, _⟩ := (ra _ .T).str_inv
      exact subTail (typeIs_str s x t) PyProof.Rows.slot_str_getitem.lookup g
  | _ => exact noS e
theorem e_rev (ih : Snd T hb n) {value st : Expr} {pos sp} {a k : Bool × PV} {r : Bool × PV} (rm : Room A n) (R : Reads hb sc env pub vars s.heap) (F : ∀ b, s.heap.get? b = none → pub.p b)
    (ha : xE T n sc vars value = some a) (hk : xE T n sc vars st = some k) (hv : revP a k.2 = some r) :
    Gets A s (eval (.Subscript value (.Slice none none (some st) sp) pos) env) (Oks r.1 pub) r.2 := by
  unfold revP at hv
  split at hv
  · rename_i i hi
    split at hv
    · rename_i hm
      have hm' : i = -1 := by simpa using hm
      subst hm'
      cases hr : evalRev a.2 with
      | none => rw [hr] at hv; cases hv
      | some x =>
        rw [hr] at hv; cases hv
        refine fun E Q q => Subscript_ (ih.e A sc env vars pub s value a.1 a.2 rm ha R F E _ fun c1 h1 tk1 st1 r1 => ?_)
        refine wpAny_Slice (wpAny_pure (wpAny_pure ?_))
        refine ih.e A sc env vars pub { s with heap := h1, toks := tk1 } st k.1 k.2 rm hk (R.stays st1) (fresh_stays F st1) E _ fun c2 h2 tk2 st2 r2 => ?_
        have r2' := r2 _ .T
        rw [hi] at r2'
        obtain ⟨u, rfl⟩ := r2'.int_inv
        have stp := stays_push h2 { cls := .type "slice", data := .fields #[.none, .none, .int (-1) u] }
        have g := rev_sound (A := A) (s := { s with heap := h2.push { cls := .type "slice", data := .fields #[.none, .none, .int (-1) u] }, toks := tk2 }) (value := value) (slice := .Slice none none (some st) sp)
          (fresh_stays (fresh_stays (fresh_stays F st1) st2) stp) hr (Heap.IsSliceOf.new h2 _ _ _) (fun ok o => ((r1 ok o).stays st2 fun _ x => x).stays stp fun _ x => x)
        exact g E Q fun cv h4 tk4 st4 r4 => q cv h4 tk4 (stays_trans (stays_trans (stays_trans st1 st2) stp) st4) r4
    · cases hv
  · cases hv
end
end Mine
namespace Mine
open PySem PySem.Calls PyProof.Rows PySem.W PySem.SeqAt
section
variable {T : Tab} {hb h : Heap} {n : Nat} {A : Around} {sc : Scope} {env : Env} {vars : Vars} {pub : Pubs} {s : Shared} {p : Bool} {v : PV}
theorem boolP_some {v : PV} {b : Bool} (e : boolP v = some b) : v = .bool b := by
  unfold boolP at e
  split at e
  · cases e; rfl
  · cases e
theorem rep_bool {ok : Addr → Prop} {b : Bool} {c : Value} (r : VRep h ok (.bool b) c) : c = .bool b := by cases r; rfl
theorem star_of {e : Expr} {r} (he : xE T n sc vars e = some r) (rest : List Expr) (env : Env) : starEach (e :: rest) env = (false, eval e env) :: starEach rest env := by
  cases e with
  | Starred => cases n <;> exact noS he
  | _ => rfl
theorem folded_of {e : Expr} {env : Env} (he : ∀ elts k pos, e ≠ .Set elts k pos) (x : Value) : foldedSetIterable e env x = pure x := by
  cases e with
  | Set => exact absurd rfl (he _ _ _)
  | _ => rfl
theorem step_o (ih : Snd T hb n) : OOk T hb (n + 1) := by
  intro A sc env vars pub s e v rm hv R F
  cases e with
  | none => cases (show some none = some v from hv); rfl
  | some e =>
      obtain ⟨a, hx, hv⟩ := bnd (show (xE T n sc vars e).bind (fun a => some (some a.2)) = some v from hv)
      cases hv
      have := ih.e A sc env vars pub s e a.1 a.2 rm.pred hx R F
      exact this.flag fun e => by cases e
theorem step_es (ih : Snd T hb n) : EsOk T hb (n + 1) := by
  intro A sc env vars pub s es vs rm hv R F pos E Q q
  cases es with
  | nil => cases (show some [] = some vs from hv); exact wpAny_items_nil (q _ s.heap s.toks (stays_refl _) .nil)
  | cons e r =>
    obtain ⟨a, ha, hv⟩ := bnd (show (xE T n sc vars e).bind (fun v => (xEs T n sc vars r).bind fun vs => some (v :: vs)) = some vs from hv)
    obtain ⟨as, has, hv⟩ := bnd hv
    cases hv
    refine wpAny_items_cons ?_ (star_of ha r env)
    refine ih.e A sc env vars pub s e a.1 a.2 rm.pred ha R F E _ fun c1 h1 tk1 st1 r1 => ?_
    refine ih.es A sc env vars pub { s with heap := h1, toks := tk1 } r as rm.pred has (R.stays st1) (fresh_stays F st1) pos E _ fun cs h2 tk2 st2 r2 => ?_
    exact q _ h2 tk2 (stays_trans st1 st2) (.cons (fun ok o => (r1 ok o).stays st2 fun _ x => x) r2)
set_option backward.match.sparseCases true in
theorem boolOp_cons (pos : Pos) (op : BoolOp) (x y : Sem Value) (rest : List (Sem Value)) : boolOp pos op (x :: y :: rest) = (do
    let v ← x
    standAt pos
    let t ← holding [v] (truthy v)
    match op, t with
    | .And, false | .Or, true => pure v
    | _, _ => boolOp pos op (y :: rest)) := rfl
theorem step_bools (ih : Snd T hb n) : BoolsOk T hb (n + 1) := by
  intro A sc env vars pub s op es b rm hv R F pos E Q q
  match es with
  | [] => exact noS hv
  | [e] =>
    obtain ⟨a, ha, hb'⟩ := bnd (show (xE T n sc vars e).bind (fun a => boolP a.2) = some b from hv)
    have hb'' := boolP_some hb'
    refine ih.e A sc env vars pub s e a.1 a.2 rm.pred ha R F E _ fun c1 h1 tk1 st1 r1 => ?_
    refine q _ h1 tk1 st1 fun ok _ => ?_
    have := r1 _ .T
    rw [hb''] at this
    rw [rep_bool this]; exact .bool b
  | e :: e' :: r =>
    obtain ⟨a, ha, hv⟩ := bnd (show (xE T n sc vars e).bind (fun a => (boolP a.2).bind fun b => bif b == (op == .And) then xBools T n sc vars op (e' :: r) else some b) = some b from hv)
    obtain ⟨c, hc, go⟩ := bnd hv
    have hc' := boolP_some hc
    show wpAny _ _ (boolOp pos op (eval e env :: eval e' env :: evalEach r env)) _ _ _
    rw [boolOp_cons]
    refine wpAny_bind (ih.e A sc env vars pub s e a.1 a.2 rm.pred ha R F E _ fun c1 h1 tk1 st1 r1 => ?_)
    have := r1 _ .T
    rw [hc'] at this
    rw [rep_bool this]
    refine wpAny_bind (wpAny_standAt (wpAny_bind (wpAny_holding (wpAny_truthy_bool ?_))))
    cases op <;> cases c
    · cases (show some false = some b from go)
      exact wpAny_pure (q _ h1 tk1 st1 fun _ _ => .bool _)
    · exact ih.bools A sc env vars pub { s with heap := h1, toks := tk1 } .And (e' :: r) b rm.pred go (R.stays st1) (fresh_stays F st1) pos E Q fun cv h2 tk2 st2 r2 => q cv h2 tk2 (stays_trans st1 st2) r2
    · exact ih.bools A sc env vars pub { s with heap := h1, toks := tk1 } .Or (e' :: r) b rm.pred go (R.stays st1) (fresh_stays F st1) pos E Q fun cv h2 tk2 st2 r2 => q cv h2 tk2 (stays_trans st1 st2) r2
    · cases (show some true = some b from go)
      exact wpAny_pure (q _ h1 tk1 st1 fun _ _ => .bool _)
theorem step_t (ih : Snd T hb n) : TOk T hb (n + 1) := by
  intro A sc env vars pub s e b rm hv R F
  cases e with
  | UnaryOp op x pos =>
    cases op with
    | Not =>
      obtain ⟨c, hx, hv⟩ := bnd (show (xT T n sc vars x).bind (fun c => some (!c)) = some b from hv)
      cases hv
      exact fun E Q q => PyProof.Rows.isTrue_not (ih.t A sc env vars pub s x c rm.pred hx R F E _ q)
    | _ => exact noS hv
  | BoolOp op es pos => exact fun E Q q => wpAny_isTrue_BoolOp ((ih.ts A sc env vars pub s op es b rm.pred hv R F).1 E Q q)
  | Compare l ops rs pos =>
    obtain ⟨hm, hv⟩ := unlessIf (show (bif lastMarks ops rs then none else (xE T n sc vars l).bind fun a => xChain T n sc vars a.2 ops rs) = some b from hv)
    obtain ⟨a, ha, hc⟩ := bnd hv
    exact t_cmp ih rm.pred R F (by rw [hm]; exact nofun) ha hc _
  | Call f as ks pos =>
    obtain ⟨a, ha, hc⟩ := bnd (show (xE T n sc vars (.Call f as ks pos)).bind (fun a => boolP a.2) = some b from hv)
    have hc' := boolP_some hc
    refine fun E Q q => PyProof.Rows.isTrue_plain (ih.e A sc env vars pub s _ a.1 a.2 rm.pred ha R F E _ fun c1 h1 tk1 st1 r1 => ?_)
    have := r1 _ .T
    rw [hc'] at this
    rw [rep_bool this]
    exact wpAny_truthy_bool (q h1 tk1 st1)
  | _ => exact noS hv
theorem rest_false {env : Env} {A : Around} {E : Value → Shared → Prop} : ∀ (r : List Expr) (s : Shared) (Q : Bool → Shared → Prop), Q false s → wpAny (model prog w) A (forIn r false fun c r => if r = true then do let ok ← isTrue c env (eval c env); pure (ForInStep.yield ok) else pure (ForInStep.yield r)) Q E s
  | [], s, Q, q => by rw [List.forIn_nil]; exact wpAny_pure q
  | e :: r, s, Q, q => by
    rw [List.forIn_cons]
    exact wpAny_bind (wpAny_pure (rest_false r s Q q))
set_option backward.match.sparseCases true in
theorem step_ts (ih : Snd T hb n) : TsOk T hb (n + 1) := by
  intro A sc env vars pub s op es b rm hv R F
  cases es with
  | nil =>
    cases (show some (op == .And) = some b from hv)
    refine ⟨fun E Q q => wpAny_pure (q s.heap s.toks (stays_refl _)), fun ho E Q q => ?_⟩
    subst ho
    rw [List.forIn_nil]; exact wpAny_pure (q s.heap s.toks (stays_refl _))
  | cons e r =>
    obtain ⟨c, hc, go⟩ := bnd (show (xT T n sc vars e).bind (fun c => bif c == (op == .And) then xTs T n sc vars op r else some c) = some b from hv)
    refine ⟨fun E Q q => ?_, fun ho E Q q => ?_⟩
    · show wpAny _ _ (do match op, ← isTrue e env (eval e env) with | .And, false => pure false | .Or, true => pure true | _, _ => allTrue op r env) _ _ _
      refine wpAny_bind (ih.t A sc env vars pub s e c rm.pred hc R F E _ fun h1 tk1 st1 => ?_)
      cases op <;> cases c
      · cases (show some false = some b from go); exact wpAny_pure (q h1 tk1 st1)
      · exact (ih.ts A sc env vars pub { s with heap := h1, toks := tk1 } .And r b rm.pred go (R.stays st1) (fresh_stays F st1)).1 E Q fun h2 tk2 st2 => q h2 tk2 (stays_trans st1 st2)
      · exact (ih.ts A sc env vars pub { s with heap := h1, toks := tk1 } .Or r b rm.pred go (R.stays st1) (fresh_stays F st1)).1 E Q fun h2 tk2 st2 => q h2 tk2 (stays_trans st1 st2)
      · cases (show some true = some b from go); exact wpAny_pure (q h1 tk1 st1)
    · subst ho
      rw [List.forIn_cons]
      refine wpAny_bind (wpAny_bind (ih.t A sc env vars pub s e c rm.pred hc R F E _ fun h1 tk1 st1 => wpAny_pure ?_))
      cases c
      · cases (show some false = some b from go)
        exact rest_false r _ Q (q h1 tk1 st1)
      · exact (ih.ts A sc env vars pub { s with heap := h1, toks := tk1 } .And r b rm.pred go (R.stays st1) (fresh_stays F st1)).2 rfl E Q fun h2 tk2 st2 => q h2 tk2 (stays_trans st1 st2)
theorem step_chain (ih : Snd T hb n) : ChainOk T hb (n + 1) := by
  intro A sc env vars pub s a ops rs b ca rm hv R F ra pos
  match ops, rs with
  | [op], [r] =>
    obtain ⟨x, hx, hc⟩ := bnd (show (xE T n sc vars r).bind (fun x => evalCmp op a x.2) = some b from hv)
    have g : ∀ (E : Value → Shared → Prop) (Q : Value → Shared → Prop), (∀ h' tk, s.heap.StaysIn h' → Q (.bool b) { s with heap := h', toks := tk }) →
        wpAny (model prog w) A (eval r env) (fun c1 s₁ => wpAny (model prog w) A (compareOp op ca c1) Q E s₁) E s := fun E Q q => by
      refine ih.e A sc env vars pub s r x.1 x.2 rm.pred hx R F E _ fun c1 h1 tk1 st1 r1 => ?_
      refine cmp_sound (Ok := Oks false pub) (s := { s with heap := h1, toks := tk1 }) rm.cmp (ra.stays st1 fun _ x => x) (r1 _ .T) hc E Q fun cv h2 tk2 st2 r2 => ?_
      rw [rep_bool (r2 _ .T)]
      exact q h2 tk2 (stays_trans st1 st2)
    exact ⟨fun E Q q => chain_last (g E _ fun h' tk st => q _ h' tk st fun _ _ => .bool b), fun E Q q => test_last (g E _ fun h' tk st => wpAny_truthy_bool (q h' tk st))⟩
  | [], _ => exact noS hv
  | _ :: _, [] => exact noS hv
  | [_], _ :: _ :: _ => exact noS hv
  | _ :: _ :: _, _ :: _ => exact noS hv
end
end Mine
namespace Mine
open PySem PySem.Calls PyProof.Rows PySem.W PySem.SeqAt
section
variable {T : Tab} {hb h : Heap} {n : Nat} {A : Around} {sc : Scope} {env : Env} {vars : Vars} {pub : Addr → Prop} {s : Shared} {p : Bool} {v : PV}
theorem bindL_notin {k : Str → Option NameKind} : ∀ (bs : List (Str × Value)) (m : Str → Option Value) (x : Str), x ∉ bs.map (·.1) → bindL k bs m x = m x
  | [], _, _, _ => rfl
  | (y, u) :: r, m, x, h => by
    unfold bindL
    have hxy : x ≠ y := fun e => h (by simp [e])
    rw [bindL_notin r _ x fun e => h (by simp; exact .inr (by simpa using e))]
    split
    · simp [hxy]
    · rfl
theorem bindL_get {k : Str → Option NameKind} : ∀ (bs : List (Str × Value)) (m : Str → Option Value) (x : Str) (u : Value), (bs.map (·.1)).Nodup → (x, u) ∈ bs → k x = some .local → bindL k bs m x = some u
  | (y, z) :: r, m, x, u, hn, hm, hk => by
    simp only [List.map_cons, List.nodup_cons] at hn
    unfold bindL
    rcases List.mem_cons.mp hm with e | hm
    · cases e
      rw [bindL_notin r _ _ hn.1, if_pos hk]; simp
    · exact bindL_get r _ x u hn.2 hm hk
theorem bindC_notin {k : Str → Option NameKind} : ∀ (bs : List (Str × Value)) (m : Str → Option Value) (x : Str), x ∉ bs.map (·.1) → bindC k bs m x = m x
  | [], _, _, _ => rfl
  | (y, u) :: r, m, x, h => by
    unfold bindC
    have hxy : x ≠ y := fun e => h (by simp [e])
    rw [bindC_notin r _ x fun e => h (by simp; exact .inr (by simpa using e))]
    split
    · rfl
    · simp [hxy]
theorem bindC_get {k : Str → Option NameKind} : ∀ (bs : List (Str × Value)) (m : Str → Option Value) (x : Str) (u : Value), (bs.map (·.1)).Nodup → (x, u) ∈ bs → ¬ k x = some .local → bindC k bs m x = some u
  | (y, z) :: r, m, x, u, hn, hm, hk => by
    simp only [List.map_cons, List.nodup_cons] at hn
    unfold bindC
    rcases List.mem_cons.mp hm with e | hm
    · cases e
      rw [bindC_notin r _ _ hn.1, if_neg hk]; simp
    · exact bindC_get r _ x u hn.2 hm hk
theorem Bound.names {vars : Vars} {as : List (Mode × PV)} {vs : List Value} {bs : List (Str × Value)} (b : Bound vars as vs bs) : bs.map (·.1) = vars.map (·.1) := by
  induction b with
  | nil => rfl
  | arg _ ih => simp [ih]
  | dflt _ _ ih => simp [ih]
theorem look_mem {x : Str} {sl : Mode × PV} : ∀ {vars : Vars}, look x vars = some sl → (x, sl) ∈ vars
  | (y, t) :: r, e => by
    unfold look at e
    split at e
    · rename_i h; cases e; rw [strEq_iff.mp h]; exact .head _
    · exact .tail _ (look_mem e)
theorem constRep_any {d : PV} {u : Value} {ok : Addr → Prop} (c : ConstRep d u) : VRep h ok d u := by
  unfold ConstRep at c
  split at c
  · subst c; exact .none
  · obtain ⟨t, rfl⟩ := c; exact .int _ _
  · exact c.elim
theorem Bound.get {Sl : Mode → PV → Value → Prop} {vars : Vars} {as : List (Mode × PV)} {vs : List Value} {bs : List (Str × Value)} (b : Bound vars as vs bs) (hs : ArgsF Sl as vs) {x : Str} {md : Mode} {v : PV} (hx : (x, md, v) ∈ vars) :
    ∃ cv, (x, cv) ∈ bs ∧ (Sl md v cv ∨ (md = .P ∧ ConstRep v cv)) := by
  induction b with
  | nil => cases hx
  | arg _ ih =>
    cases hs with | cons a r =>
    rcases List.mem_cons.mp hx with e | hx
    · cases e; exact ⟨_, .head _, .inl a⟩
    · obtain ⟨cv, h1, h2⟩ := ih r hx; exact ⟨cv, .tail _ h1, h2⟩
  | dflt c _ ih =>
    rcases List.mem_cons.mp hx with e | hx
    · cases e; exact ⟨_, .head _, .inr ⟨rfl, c⟩⟩
    · obtain ⟨cv, h1, h2⟩ := ih hs hx; exact ⟨cv, .tail _ h1, h2⟩
noncomputable def Handed (h : Heap) (pub : Addr → Prop) (lent : Addr) (md : Mode) (v : PV) (cv : Value) : Prop := match md with
  | .P => VRep h pub v cv
  | .B => VRep h (fun a => a ≠ lent) v cv
  | .M => okItems v = true ∧ cv = .ref lent ∧ VRep h (fun b => b = lent) v cv
  | .O => False
theorem call_frame {fn : Fn} {lent : Addr} {s' : Shared} {as : List (Mode × PV)} {vals : List Value} {bs : List (Str × Value)} (hst : hb.StaysIn s.heap) (hf : ∀ b, s.heap.get? b = none → pub b)
    (he : env.locals = s.heap.objs.size ∧ env.cells = cellsFrom (s.heap.objs.size + 1) fn.scope.names [] ∧ env.scope = fn.scope ∧ env.globals = mainGlobals ∧ env.builtins = builtinsNs) (hkind : fn.scope.kind = .function)
    (hnd : (fn.scope.names.map (·.1)).Nodup) (hnf : ∀ x ∈ fn.scope.names, x.2 ≠ .free)
    (x : InCallC s env.locals (bindL env.kindOf bs fun _ => none) env.cells (bindC env.kindOf bs fun _ => none) s')
    (bd : Bound vars as vals bs) (hown : ∀ x ∈ vars, ownK fn.scope x.1 = true) (hn : (vars.map (·.1)).Nodup) (ha : ArgsF (Handed s.heap pub lent) as vals)
    (hM : ∀ y md v, (y, md, v) ∈ vars → ownM md = true → hb.get? lent = none ∧ s.heap.get? lent ≠ none) (hM1 : ∀ y z my vy mz vz, (y, my, vy) ∈ vars → (z, mz, vz) ∈ vars → ownM my = true → ownM mz = true → y = z) (hpl : ¬ pub lent ∨ ∀ y md v, (y, md, v) ∈ vars → ownM md = false) :
    Frame hb fn.scope env pub (fun _ => True) lent vars (fun y => if env.kindOf y = some .local then bindL env.kindOf bs (fun _ => none) y else bindC env.kindOf bs (fun _ => none) y) s'.heap ∧
    ∀ a, Wr fn.scope env vars (fun y => if env.kindOf y = some .local then bindL env.kindOf bs (fun _ => none) y else bindC env.kindOf bs (fun _ => none) y) a → s.heap.get? a = none ∨ (a = lent ∧ ∃ y md v, (y, md, v) ∈ vars ∧ ownM md = true) := by
  obtain ⟨hL, hC, hS, hg, hbl⟩ := he
  have kof : ∀ y, env.kindOf y = kindIn y fn.scope.names := fun y => by rw [kindIn_lookup]; unfold Env.kindOf; rw [hS]
  have st : s.heap.StaysIn s'.heap := x.toInCall.keep
  have hbn : (bs.map (·.1)).Nodup := by rw [bd.names]; exact hn
  have nofree : ∀ y, kindIn y fn.scope.names ≠ some .free := fun y e => by
    rw [kindIn_lookup] at e
    exact hnf _ (mem_of_lookup e) rfl
  have vget : ∀ y md v, (y, md, v) ∈ vars → ∃ cv, (if env.kindOf y = some .local then bindL env.kindOf bs (fun _ => none) y else bindC env.kindOf bs (fun _ => none) y) = some cv ∧ (Handed s.heap pub lent md v cv ∨ (md = .P ∧ ConstRep v cv)) := fun y md v hy => by
    obtain ⟨cv, h1, h2⟩ := bd.get ha hy
    refine ⟨cv, ?_, h2⟩
    split
    · rename_i hk; exact bindL_get bs _ y cv hbn h1 hk
    · rename_i hk; exact bindC_get bs _ y cv hbn h1 hk
  have isM : ∀ y md v, (y, md, v) ∈ vars → ownM md = true → md = .M ∧ okItems v = true ∧ (if env.kindOf y = some .local then bindL env.kindOf bs (fun _ => none) y else bindC env.kindOf bs (fun _ => none) y) = some (.ref lent) ∧ VRep s.heap (fun b => b = lent) v (.ref lent) := fun y md v hy hm => by
    obtain ⟨cv, h1, h2⟩ := vget y md v hy
    rcases h2 with h2 | ⟨rfl, _⟩
    · cases md with
      | M => obtain ⟨a, rfl, b⟩ := h2; exact ⟨rfl, a, h1, b⟩
      | O => exact h2.elim
      | P => cases hm
      | B => cases hm
    · cases hm
  have hsz : ∀ a, s.heap.objs.size ≤ a → s.heap.get? a = none := fun a ha => Heap.get?_none_of_le ha
  have wr : ∀ a, Wr fn.scope env vars (fun y => if env.kindOf y = some .local then bindL env.kindOf bs (fun _ => none) y else bindC env.kindOf bs (fun _ => none) y) a → s.heap.get? a = none ∨ (a = lent ∧ ∃ y md v, (y, md, v) ∈ vars ∧ ownM md = true) := fun a q => by
    rcases q with rfl | ⟨y, hy, hc⟩ | ⟨y, md, v, hy, hm, hv⟩
    · exact .inl (hsz _ (by rw [hL]; exact Nat.le_refl _))
    · exact .inl (hsz _ (by have := x.above y a (mem_of_lookup hc); rw [hL] at this; exact Nat.le_of_lt this))
    · obtain ⟨_, _, e, _⟩ := isM y md v (look_mem hy) hm
      have e2 := hv.symm.trans e
      cases e2
      exact .inr ⟨rfl, y, md, v, look_mem hy, hm⟩
  have wrP : ∀ a, pub a → s.heap.get? a ≠ none → ¬ Wr fn.scope env vars (fun y => if env.kindOf y = some .local then bindL env.kindOf bs (fun _ => none) y else bindC env.kindOf bs (fun _ => none) y) a := fun a hp he q => by
    rcases wr a q with e | ⟨rfl, y, md, v, hy, hm⟩
    · exact he e
    · rcases hpl with e | e
      · exact e hp
      · rw [e y md v hy] at hm; cases hm
  exact ⟨{
    base := stays_trans hst st
    glob := hg
    blt := hbl
    kind := by rw [hS]; exact hkind
    kok := fun y k hk => .inl (by rw [kof]; exact hk)
    ns := ⟨_, x.toInCall.ns, fun y cv hy _ hv => by rw [kof, hy] at hv; simpa using hv⟩
    cel := fun y hy => by
      have hy' : kindIn y fn.scope.names = some .cell := hy.elim id fun e => absurd e (nofree y)
      have hs := cellsFrom_some (x := y) fn.scope.names (s.heap.objs.size + 1) [] (.inl (by rw [← kindIn_lookup]; exact hy'))
      obtain ⟨c, hc⟩ := Option.isSome_iff_exists.mp hs
      rw [← hC] at hc
      refine ⟨c, _, hc, x.cell y c hc, trivial, fun cv _ hv => ?_⟩
      rw [kof, hy'] at hv; simpa using hv
    apart := fun y z c hy hz h1 h2 => name_of_addr x.apart (mem_of_lookup h1) (mem_of_lookup h2)
    slots := fun y md v hy => by
      obtain ⟨cv, h1, h2⟩ := vget y md v (look_mem hy)
      refine ⟨cv, h1, ?_⟩
      rcases h2 with h2 | ⟨rfl, h2⟩
      · cases md with
        | P => exact (VRep.exist h2).stays st fun a o => ⟨⟨o.1, trivial⟩, wrP a o.1 o.2⟩
        | B => exact (VRep.exist h2).stays st fun a o => ⟨trivial, fun q => (wr a q).elim (fun e => o.2 e) fun e => o.1 e.1⟩
        | O => exact h2.elim
        | M => obtain ⟨a, rfl, b⟩ := h2; exact ⟨a, rfl, b.stays st fun _ x => x, trivial⟩
      · exact constRep_any h2
    own1 := fun y z my vy mz vz a hy hmy hz hmz _ _ => hM1 y z my vy mz vz (look_mem hy) (look_mem hz) hmy hmz
    sepL := fun y md v hy hm hv => by
      obtain ⟨_, _, e, _⟩ := isM y md v (look_mem hy) hm
      have e2 := hv.symm.trans e
      cases e2
      exact (hM y md v (look_mem hy) hm).2 (hsz _ (by rw [hL]; exact Nat.le_refl _))
    nbL := trivial
    old := fun a q => by
      rcases wr a q with e | ⟨rfl, y, md, v, hy, hm⟩
      · exact none_of_stays hst e
      · exact (hM y md v hy hm).1
    pbf := fun a e => hf a (none_of_stays st e)
    nbf := fun _ _ => trivial }, wr⟩
end
end Mine
set_option backward.match.sparseCases true
namespace Mine
open PySem PySem.Calls PyProof.Rows PySem.W PySem.SeqAt
section
variable {T : Tab} {hb h : Heap} {n : Nat} {A : Around} {sc : Scope} {env : Env} {vars : Vars} {pub : Addr → Prop} {s : Shared} {p : Bool} {v : PV}
theorem ArgsF.len {Sl : Mode → PV → Value → Prop} {as : List (Mode × PV)} {vs : List Value} (h : ArgsF Sl as vs) : as.length = vs.length := by
  induction h with
  | nil => rfl
  | cons _ _ ih => simp [ih]
noncomputable def CallEnds (h' : Heap) (pub : Addr → Prop) (lent : Addr) (r : Res) (cv : Value) : Prop := match r with
  | .ret v => VRep h' (fun _ => True) v cv ∧ VRep h' pub v cv
  | .next vars' => cv = .none ∧ ∀ x v, look x vars' = some (.M, v) → okItems v = true ∧ VRep h' (fun b => b = lent) v (.ref lent)
theorem call_enterB (rm : Room A (n + 1)) {a lent : Addr} {fn : Fn} {as : List (Mode × PV)} {vals : List Value} {r : Res} {E : Value → Shared → Prop} {Q : Value → Shared → Prop}
    (hfn : FnAt hb a fn) (hnl : hb.NoLimit) (hst : hb.StaysIn s.heap) (hf : ∀ b, s.heap.get? b = none → pub b) (hbind : bindArgsV fn.params as fn.dflts = some vars)
    (hrun : ∀ (env : Env) val h tk, Frame hb fn.scope env pub (fun _ => True) lent vars val h → ∀ (E : Value → Shared → Prop) (Q : Flow → Shared → Prop), (∀ f s', After hb fn.scope env pub (fun _ => True) lent (Wr fn.scope env vars val) { s with heap := h, toks := tk } r f s' → Q f s') → wpAny (model prog w) (A.deeper env) (execs fn.body env) Q E { s with heap := h, toks := tk })
    (ha : ArgsF (Handed s.heap pub lent) as vals)
    (hM : ∀ y md v, (y, md, v) ∈ vars → ownM md = true → hb.get? lent = none ∧ s.heap.get? lent ≠ none) (hM1 : ∀ y z my vy mz vz, (y, my, vy) ∈ vars → (z, mz, vz) ∈ vars → ownM my = true → ownM mz = true → y = z) (hpl : ¬ pub lent ∨ ∀ y md v, (y, md, v) ∈ vars → ownM md = false)
    (q : ∀ cv h' tk, (∀ b o, s.heap.get? b = some o → (b ≠ lent ∨ ∀ y md v, (y, md, v) ∈ vars → ownM md = false) → h'.get? b = some o) → (∀ b, h'.get? b = none → s.heap.get? b = none ∨ b = lent) → CallEnds h' pub lent r cv → Q cv { s with heap := h', toks := tk }) :
    codeAny (model prog w) A (.call (.ref a) ⟨vals, []⟩) (fun r s' => match r with | .ok (.ret v) => Q v s' | .ok _ => False | .error e => E e s') s := by
  obtain ⟨o, fd, ho, hd, hg, hbl, hcl, hbody, hscope, hcode, hb'⟩ := hfn.fd
  obtain ⟨bs, hbt, bd⟩ := hb' as vals vars s hst ha.len hbind
  obtain ⟨hown, hnod⟩ := hfn.own as vars hbind
  refine codeAny_call_function (fd := fd) (body := fn.body) (by have := rm.d; (first | with_reducible exact Nat.le_trans (by assumption) (by decide) | lia | omega)) (hst a o ho) hd (by rw [hscope]; exact hfn.co) (by rw [hscope]; exact hfn.gen) hbody (hcode.keeps hst) (hbt _ _ _ _ ?_)
  rw [hcl]
  refine wpAny_newFunctionEnv_cells (by rw [hscope]; exact hfn.kind) (fun y hy => ?_) fun env he s' x => ?_
  · have hy' : y.1 ∈ vars.map (·.1) := by rw [← bd.names]; exact List.mem_map_of_mem hy
    obtain ⟨z, hz, e⟩ := List.mem_map.mp hy'
    have hk := hown z hz
    rw [e] at hk
    unfold ownK at hk
    rw [hscope, ← kindIn_lookup]
    split at hk
    · rename_i e; exact .inl e
    · rename_i e; exact .inr ⟨e, cellsFrom_some _ _ _ (.inl (by rw [← kindIn_lookup]; exact e))⟩
    · cases hk
  · refine ⟨(hnl.keeps hst).keeps x.toInCall.keep, codeAny_func ?_⟩
    have hE : env.locals = s.heap.objs.size ∧ env.cells = cellsFrom (s.heap.objs.size + 1) fn.scope.names [] ∧ env.scope = fn.scope ∧ env.globals = mainGlobals ∧ env.builtins = builtinsNs := by
      subst he
      exact ⟨rfl, by show cellsFrom _ fd.scope.names [] = _; rw [hscope], hscope, hg, hbl⟩
    obtain ⟨Fr, wr⟩ := call_frame hst hf hE hfn.kind hfn.apart hfn.nofree x bd hown hnod ha hM hM1 hpl
    obtain ⟨h₁, tk₁, rfl, keep⟩ := x.done
    refine hrun env _ h₁ tk₁ Fr _ _ fun f s₂ aft => ?_
    obtain ⟨h₂, tk₂, rfl, aft⟩ := aft
    have kept : ∀ {W₂ : Addr → Prop}, Kp (Wr fn.scope env vars fun y => if env.kindOf y = some .local then bindL env.kindOf bs (fun _ => none) y else bindC env.kindOf bs (fun _ => none) y) h₁ h₂ → ∀ b o, s.heap.get? b = some o → (b ≠ lent ∨ ∀ y md v, (y, md, v) ∈ vars → ownM md = false) → h₂.get? b = some o := fun k b o e c => by
      refine k b o (keep b o e) (.inl fun q => ?_)
      rcases wr b q with e' | ⟨rfl, y, md, v, hy, hm⟩
      · rw [e'] at e; cases e
      · rcases c with c | c
        · exact c rfl
        · rw [c y md v hy] at hm; cases hm
    have exs : (∀ b, h₂.get? b = none → h₁.get? b = none ∨ Wr fn.scope env vars (fun y => if env.kindOf y = some .local then bindL env.kindOf bs (fun _ => none) y else bindC env.kindOf bs (fun _ => none) y) b) → ∀ b, h₂.get? b = none → s.heap.get? b = none ∨ b = lent := fun e b eb => (e b eb).elim (fun x => .inl (none_of_stays keep x)) fun x => (wr b x).imp id (·.1)
    cases r with
    | next vars' =>
      obtain ⟨rfl, val', F', adv⟩ := aft
      refine q .none h₂ tk₂ (kept (W₂ := fun _ => True) adv.kp) (exs adv.ex) ⟨rfl, fun x v hx => ?_⟩
      obtain ⟨cv, _, hi, rfl, hr, _⟩ := F'.slots x .M v hx
      exact ⟨hi, hr⟩
    | ret v =>
      obtain ⟨cv, rfl, r1, r2, kp, ex⟩ := aft
      exact q cv h₂ tk₂ (kept (W₂ := fun _ => True) kp) (exs ex) ⟨r1, r2⟩
theorem call_enterC (ih : Snd T hb n) (rm : Room A (n + 1)) {a lent : Addr} {fn : Fn} {as : List (Mode × PV)} {vals : List Value} {r : Res} {E : Value → Shared → Prop} {Q : Value → Shared → Prop}
    (hfn : FnAt hb a fn) (hnl : hb.NoLimit) (hst : hb.StaysIn s.heap) (hf : ∀ b, s.heap.get? b = none → pub b) (hbind : bindArgsV fn.params as fn.dflts = some vars) (hrun : xSs T n fn.scope vars fn.body = some r)
    (ha : ArgsF (Handed s.heap pub lent) as vals)
    (hM : ∀ y md v, (y, md, v) ∈ vars → ownM md = true → hb.get? lent = none ∧ s.heap.get? lent ≠ none) (hM1 : ∀ y z my vy mz vz, (y, my, vy) ∈ vars → (z, mz, vz) ∈ vars → ownM my = true → ownM mz = true → y = z) (hpl : ¬ pub lent ∨ ∀ y md v, (y, md, v) ∈ vars → ownM md = false)
    (q : ∀ cv h' tk, (∀ b o, s.heap.get? b = some o → (b ≠ lent ∨ ∀ y md v, (y, md, v) ∈ vars → ownM md = false) → h'.get? b = some o) → (∀ b, h'.get? b = none → s.heap.get? b = none ∨ b = lent) → CallEnds h' pub lent r cv → Q cv { s with heap := h', toks := tk }) :
    codeAny (model prog w) A (.call (.ref a) ⟨vals, []⟩) (fun r s' => match r with | .ok (.ret v) => Q v s' | .ok _ => False | .error e => E e s') s :=
  call_enterB rm hfn hnl hst hf hbind (fun env val h tk Fr E Q q => ih.ss (A.deeper env) fn.scope env pub (fun _ => True) lent vars val { s with heap := h, toks := tk } fn.body r rm.deeper hrun Fr E Q q) ha hM hM1 hpl q
theorem call_enter (ih : Snd T hb n) (rm : Room A (n + 1)) {a lent : Addr} {fn : Fn} {as : List (Mode × PV)} {vals : List Value} {r : Res} {E : Value → Shared → Prop} {Q : Value → Shared → Prop}
    (hfn : FnAt hb a fn) (hnl : hb.NoLimit) (hst : hb.StaysIn s.heap) (hf : ∀ b, s.heap.get? b = none → pub b) (hbind : bindArgsV fn.params as fn.dflts = some vars) (hrun : xSs T n fn.scope vars fn.body = some r)
    (ha : ArgsF (Handed s.heap pub lent) as vals)
    (hM : ∀ y md v, (y, md, v) ∈ vars → ownM md = true → hb.get? lent = none ∧ s.heap.get? lent ≠ none) (hM1 : ∀ y z my vy mz vz, (y, my, vy) ∈ vars → (z, mz, vz) ∈ vars → ownM my = true → ownM mz = true → y = z) (hpl : ¬ pub lent ∨ ∀ y md v, (y, md, v) ∈ vars → ownM md = false)
    (q : ∀ cv h' tk, (∀ b o, s.heap.get? b = some o → (b ≠ lent ∨ ∀ y md v, (y, md, v) ∈ vars → ownM md = false) → h'.get? b = some o) → (∀ b, h'.get? b = none → s.heap.get? b = none ∨ b = lent) → CallEnds h' pub lent r cv → Q cv { s with heap := h', toks := tk }) :
    wpAny (model prog w) A (call (.ref a) vals) Q E s :=
  wpAny_call (call_enterC ih rm hfn hnl hst hf hbind hrun ha hM hM1 hpl q)
noncomputable def Consts (T : Tab) (hb : Heap) : Prop := ∀ x fn v a, tabLook x T = some fn → fn.const = some v → FnAt hb a fn → ∀ A (s : Shared) (pub : Pubs), Room A 61 → hb.StaysIn s.heap → (∀ b, s.heap.get? b = none → pub.p b) →
  Gets A s (call (.ref a) []) (Oks true pub) v
theorem bindArgs_modes : ∀ {ps : List Str} {as : List (Mode × PV)} {ds : List (Str × PV)} {vars : Vars}, bindArgsV ps as ds = some vars → ∀ y md v, (y, md, v) ∈ vars → md = .P ∨ (md, v) ∈ as
  | [], [], ds, vars, e, y, md, v, hy => by
    cases (show some (ds.map fun d => (d.1, Mode.P, d.2)) = some vars from e)
    obtain ⟨d, _, e⟩ := List.mem_map.mp hy
    cases e; exact .inl rfl
  | [], _ :: _, _, _, e, _, _, _, _ => noS e
  | _ :: _, [], [], _, e, _, _, _, _ => noS e
  | p :: ps, [], d :: ds, vars, e, y, md, v, hy => by
    obtain ⟨_, vs, q, rfl⟩ := bindD e
    rcases List.mem_cons.mp hy with e | hy
    · cases e; exact .inl rfl
    · exact bindArgs_modes q y md v hy
  | p :: ps, a :: as, ds, vars, e, y, md, v, hy => by
    obtain ⟨vs, q, rfl⟩ := bindA e
    rcases List.mem_cons.mp hy with e | hy
    · cases e; exact .inr (.head _)
    · exact (bindArgs_modes q y md v hy).imp id fun m => .tail _ m
theorem ArgsF.mem {Sl : Mode → PV → Value → Prop} {as : List (Mode × PV)} {vs : List Value} (h : ArgsF Sl as vs) {md : Mode} {v : PV} (hm : (md, v) ∈ as) : ∃ cv, Sl md v cv := by
  induction h with
  | nil => cases hm
  | cons a _ ih =>
    rcases List.mem_cons.mp hm with e | hm
    · cases e; exact ⟨_, a⟩
    · exact ih hm
theorem ArgsF.imp {Sl Sl' : Mode → PV → Value → Prop} {as : List (Mode × PV)} {vs : List Value} (h : ArgsF Sl as vs) (f : ∀ md v cv, Sl md v cv → Sl' md v cv) : ArgsF Sl' as vs := by
  induction h with
  | nil => exact .nil
  | cons a _ ih => exact .cons (f _ _ _ a) ih
theorem step_call (ih : Snd T hb n) (hnl : hb.NoLimit) (hc : Consts T hb) : CallOk T hb (n + 1) := by
  intro A fn as v a s vals pub rm hv hT hfn hst ha F
  have hv : zCallK (zRec T n) n fn.const fn as = some v := hv
  cases hcon : fn.const with
  | some u =>
    rw [hcon] at hv
    cases as with
    | nil =>
      cases ha
      obtain ⟨h60, hv⟩ := onlyIf (show (bif Nat.ble 60 n then some u else none) = some v from hv)
      cases hv
      obtain ⟨x, hx⟩ := hT
      exact hc x fn _ a hx hcon hfn A s pub (rm.le (Nat.succ_le_succ (Nat.le_of_ble_eq_true h60))) hst F
    | cons => exact noS hv
  | none =>
    rw [hcon] at hv
    obtain ⟨vars, hb', hv⟩ := bnd (show (bindArgsV fn.params as fn.dflts).bind (fun vars => (xSs T n fn.scope vars fn.body).bind fun q => some (retOf q)) = some v from hv)
    obtain ⟨r, hr, hv⟩ := bnd hv
    cases hv
    have noM : ∀ y md v, (y, md, v) ∈ vars → ownM md = false := fun y md v hy => by
      rcases bindArgs_modes hb' y md v hy with rfl | hm
      · rfl
      · obtain ⟨_, h, _⟩ := ArgsF.mem ha hm; exact h
    refine fun E Q q => call_enter ih rm (lent := s.heap.objs.size) hfn hnl hst F hb' hr (ha.imp fun md v cv ⟨h1, h2, h3⟩ => ?_) (fun y md v hy hm => by rw [noM y md v hy] at hm; cases hm)
      (fun y z my vy mz vz hy _ hm _ => by rw [noM y my vy hy] at hm; cases hm) (.inr noM) fun cv h' tk k ex ends => q cv h' tk (fun b o e => k b o e (.inr noM)) fun ok o => ?_
    · cases md with
      | P => exact h3 rfl
      | B => exact h2.exist.weaken fun a o => fun e => o.2 (by rw [e]; exact Heap.get?_none_of_le (Nat.le_refl _))
      | O => cases h1
      | M => cases h1
    · cases r with
      | next vars' => obtain ⟨rfl, _⟩ := ends; exact .none
      | ret v =>
        rcases o with rfl | rfl | ⟨_, rfl⟩
        · exact ends.1
        · exact ends.2.weaken pub.sub
        · exact ends.2
end
end Mine
set_option backward.match.sparseCases false
namespace Mine
open PySem PySem.Calls PyProof.Rows PySem.W PySem.SeqAt
section
variable {T : Tab} {hb h : Heap} {n : Nat} {A : Around} {sc : Scope} {env : Env} {vars : Vars} {pub pb nb : Addr → Prop} {lent : Addr} {val : Str → Option Value} {s : Shared} {p : Bool} {v : PV}
theorem stays_ext {h h' : Heap} (x : Heap.ExtBut h.objs.size h h') : h.StaysIn h' := fun a o e => x a o (Nat.ne_of_lt (Heap.lt_size e)) e
theorem Frame.storeP {x : Str} {v : PV} {cv : Value} {pi : Addr → Prop} {Q : Unit → Shared → Prop} {E : Value → Shared → Prop} (F : Frame hb sc env pb nb lent vars val s.heap) (hx : ownK sc x = true)
    (hr : VRep s.heap pi v cv) (hpi : ∀ a, pi a → (pb a ∧ nb a) ∧ ¬ Wr sc env vars val a)
    (q : ∀ h' tk, Frame hb sc env pb nb lent (setV x (.P, v) vars) (setF val x cv) h' → Adv (Wr sc env vars val) s.heap (Wr sc env (setV x (.P, v) vars) (setF val x cv)) h' →
      (∀ a, Wr sc env (setV x (.P, v) vars) (setF val x cv) a → Wr sc env vars val a) → Q () { s with heap := h', toks := tk }) : wpAny (model prog w) A (storeName env x cv) Q E s := by
  have hsl : NewSlot hb s.heap pb nb nb (Wr sc env vars val) .P v cv := .inl ⟨rfl, hr.weaken hpi⟩
  have hwr : ∀ a, Wr sc env (setV x (.P, v) vars) (setF val x cv) a → Wr sc env vars val a := fun a q => (Frame.set_wr hsl a q).elim id fun e => by cases e.1
  exact F.store hx (fun _ x => x) hsl fun h' tk F' k ex => q h' tk F' ⟨k, fun a e => .inl (ex a e), fun a e => .inl (hwr a e)⟩ hwr
theorem bindTs_cons {t : Expr} {ts : List Expr} {v : PV} {vs : List PV} {vars vars' : Vars} {n : Nat} (e : bindTs (n + 1) sc (t :: ts) (v :: vs) vars = some vars') : ∃ vars1, bindT n sc t v vars = some vars1 ∧ bindTs n sc ts vs vars1 = some vars' ∧ assignEach (t :: ts) env = (false, assign t env) :: assignEach ts env := by
  obtain ⟨vars1, e1, e2⟩ := bnd (show (bindT n sc t v vars).bind (bindTs n sc ts vs) = some vars' from e)
  refine ⟨vars1, e1, e2, ?_⟩
  cases t with
  | Starred => cases n <;> exact noS e1
  | _ => rfl
theorem syn_each : ∀ (ts : List Expr) (vs : List PV) (n : Nat) (vars vars' : Vars), bindTs n sc ts vs vars = some vars' → (assignEach ts env).length = vs.length ∧ (assignEach ts env).findIdx? (·.1) = none
  | ts, vs, 0, _, _, e => noS e
  | [], [], n + 1, _, _, _ => ⟨rfl, rfl⟩
  | [], _ :: _, n + 1, _, _, e => noS e
  | _ :: _, [], n + 1, _, _, e => noS e
  | t :: ts, v :: vs, n + 1, vars, vars', e => by
    obtain ⟨vars1, e1, e2, nostar⟩ := bindTs_cons (env := env) e
    have := syn_each ts vs n vars1 vars' e2
    rw [nostar]
    exact ⟨congrArg (· + 1) this.1, by rw [List.findIdx?_cons, this.2]; rfl⟩
theorem bind_sound (hh : A.handled = none) : ∀ n : Nat,
    (∀ (t : Expr) (v : PV) (vars vars' : Vars) (val : Str → Option Value) (s : Shared) (cv : Value) (pi : Addr → Prop) (E : Value → Shared → Prop) (Q : Unit → Shared → Prop), bindT n sc t v vars = some vars' → Frame hb sc env pb nb lent vars val s.heap →
      VRep s.heap pi v cv → (∀ a, pi a → (pb a ∧ nb a) ∧ ¬ Wr sc env vars val a) →
      (∀ h' tk val', Frame hb sc env pb nb lent vars' val' h' → Adv (Wr sc env vars val) s.heap (Wr sc env vars' val') h' → (∀ a, Wr sc env vars' val' a → Wr sc env vars val a) → Q () { s with heap := h', toks := tk }) →
      wpAny (model prog w) A (assign t env cv) Q E s) ∧
    (∀ (ts : List Expr) (vs : List PV) (vars vars' : Vars) (val : Str → Option Value) (s : Shared) (cs : List Value) (pi : Addr → Prop) (E : Value → Shared → Prop) (Q : Unit → Shared → Prop), bindTs n sc ts vs vars = some vars' → Frame hb sc env pb nb lent vars val s.heap →
      VAll s.heap pi vs cs → (∀ a, pi a → (pb a ∧ nb a) ∧ ¬ Wr sc env vars val a) →
      (∀ h' tk val', Frame hb sc env pb nb lent vars' val' h' → Adv (Wr sc env vars val) s.heap (Wr sc env vars' val') h' → (∀ a, Wr sc env vars' val' a → Wr sc env vars val a) → Q () { s with heap := h', toks := tk }) →
      wpAny (model prog w) A (assignInOrder ((assignEach ts env).map (·.2)) cs) Q E s ∧ (assignEach ts env).length = vs.length ∧ (assignEach ts env).findIdx? (·.1) = none)
  | 0 => ⟨fun t v vars vars' val s cv pi E Q e => noS e, fun t v vars vars' val s cv pi E Q e => noS e⟩
  | n + 1 => by
    obtain ⟨ih1, ih2⟩ := bind_sound hh n
    refine ⟨fun t v vars vars' val s cv pi E Q e F r hpi q => ?_, fun ts vs vars vars' val s cs pi E Q e F r hpi q => ?_⟩
    · cases t with
      | Name x pos =>
        obtain ⟨hx, e⟩ := onlyIf (show (bif ownK sc x then some (setV x (.P, v) vars) else none) = some vars' from e)
        cases e
        exact wpAny_assign_Name (F.storeP hx r hpi fun h' tk F' adv hw => q h' tk _ F' adv hw)
      | Tuple es k pos =>
        obtain ⟨l, hl, e⟩ := bnd (show (tupL v).bind (fun l => bindTs n sc es l vars) = some vars' from e)
        obtain rfl := tupL_eq hl
        obtain ⟨a, items, rfl, ⟨m, hl⟩, ha⟩ := r.tup_inv
        have full := fun h' (x : Heap.ExtBut s.heap.objs.size s.heap h') => ih2 es l vars vars' val { s with heap := h' } items.toList pi E Q e (F.stays (stays_ext x)) (ha.stays (stays_ext x) fun _ x => x) hpi fun h'' tk val' F' adv hw =>
          q h'' tk val' F' ((Adv.stays (stays_ext x)).trans adv) hw
        obtain ⟨_, hlen, hst⟩ := full s.heap fun _ _ _ e => e
        refine wpAny_assign_Tuple hh ⟨_, hl, rfl, m, rfl⟩ ?_ hst fun h' x => (full h' x).1
        rw [hlen, ha.length]; rfl
      | _ => exact noS e
    · match ts, vs, r, e with
      | [], _ :: _, _, e => exact noS e
      | _ :: _, [], _, e => exact noS e
      | [], [], r, e =>
        cases (show some vars = some vars' from e)
        obtain rfl := r.nil_inv
        exact ⟨wpAny_pure (q s.heap s.toks val F (Adv.refl _ _) fun _ x => x), rfl, rfl⟩
      | t :: ts, v :: vs, r, e =>
        obtain ⟨cv, cs, rfl, r, rs⟩ := r.cons_inv
        obtain ⟨vars1, e1, e2, nostar⟩ := bindTs_cons (env := env) e
        rw [nostar]
        refine ⟨?_, ?_⟩
        · show wpAny _ _ (holding cs (assign t env cv) >>= fun _ => assignInOrder ((assignEach ts env).map (·.2)) cs) _ _ _
          refine wpAny_bind (wpAny_holding (ih1 t v vars vars1 val s cv pi E _ e1 F r hpi fun h1 tk1 val1 F1 adv1 hw1 => ?_))
          have rs' : VAll h1 pi vs cs := rs.kp adv1.kp fun a o => ⟨(hpi a o).2, o⟩
          have hpi1 : ∀ a, pi a → (pb a ∧ nb a) ∧ ¬ Wr sc env vars1 val1 a := fun a o => ⟨(hpi a o).1, fun x => (hpi a o).2 (hw1 a x)⟩
          exact (ih2 ts vs vars1 vars' val1 { s with heap := h1, toks := tk1 } cs pi E Q e2 F1 rs' hpi1 fun h2 tk2 val2 F2 adv2 hw2 => q h2 tk2 val2 F2 (adv1.trans adv2) fun a x => hw1 a (hw2 a x)).1
        · have := syn_each (env := env) ts vs n vars1 vars' e2
          exact ⟨congrArg (· + 1) this.1, by rw [List.findIdx?_cons, this.2]; rfl⟩
theorem After.trans {W₀ W₁ : Addr → Prop} {h1 : Heap} {tk1 : Nat} {r : Res} {f : Flow} {s' : Shared} (adv : Adv W₀ s.heap W₁ h1)
    (aft : After hb sc env pb nb lent W₁ { s with heap := h1, toks := tk1 } r f s') : After hb sc env pb nb lent W₀ s r f s' := by
  obtain ⟨h2, tk2, rfl, x⟩ := aft
  refine ⟨h2, tk2, rfl, ?_⟩
  cases r with
  | next vars' => obtain ⟨a, val', F, b⟩ := x; exact ⟨a, val', F, adv.trans b⟩
  | ret v =>
    obtain ⟨cv, a, b, c, d, e⟩ := x
    exact ⟨cv, a, b, c, fun y o ey q => d y o (adv.kp y o ey q) (q.imp (fun n z => (adv.wr y z).elim n fun z => by rw [z] at ey; cases ey) id), fun y ey => (e y ey).elim (adv.ex y) fun w => (adv.wr y w).elim .inr .inl⟩
theorem After.mono' {W₀ V : Addr → Prop} {r : Res} {f : Flow} {s' : Shared} (aft : After hb sc env pb nb lent W₀ s r f s') (m : ∀ a, W₀ a → V a) : After hb sc env pb nb lent V s r f s' := by
  obtain ⟨h2, tk2, rfl, x⟩ := aft
  refine ⟨h2, tk2, rfl, ?_⟩
  cases r with
  | next vars' => obtain ⟨a, val', F, b⟩ := x; exact ⟨a, val', F, b.weaken m fun _ x => x⟩
  | ret v => obtain ⟨cv, a, b, c, d, e⟩ := x; exact ⟨cv, a, b, c, d.mono m, fun y ey => (e y ey).imp id (m y)⟩
theorem step_ss (ih : Snd T hb n) : SsOk T hb (n + 1) := by
  intro A sc env pb nb lent vars val s body r rm hv F E Q q
  cases body with
  | nil => cases (show some (Res.next vars) = some r from hv); exact wpAny_execs_nil (q _ _ ⟨s.heap, s.toks, rfl, rfl, val, F, Adv.refl _ _⟩)
  | cons st rest =>
    obtain ⟨r1, h1, hv⟩ := bnd (show (xS T n sc vars st).bind (zThen (zRec T n) sc rest) = some r from hv)
    refine wpAny_execs_cons (ih.s A sc env pb nb lent vars val s st r1 rm.pred h1 F E _ fun f s1 aft => ?_)
    cases r1 with
    | next vars1 =>
      obtain ⟨h1, tk1, rfl, rfl, val1, F1, adv⟩ := aft
      exact ih.ss A sc env pb nb lent vars1 val1 { s with heap := h1, toks := tk1 } rest r rm.pred hv F1 E Q fun f s2 aft2 => q f s2 (aft2.trans adv)
    | ret v =>
      cases (show some (Res.ret v) = some r from hv)
      have aft' := aft
      obtain ⟨h1, tk1, rfl, cv, rfl, _⟩ := aft
      exact q _ _ aft'
theorem s_if (ih : Snd T hb n) (rm : Room A n) {t : Expr} {a b : List Stmt} {pos : Pos} {c : Bool} {r : Res} (F : Frame hb sc env pb nb lent vars val s.heap)
    (ht : xT T n sc vars t = some c) (hv : (bif c then xSs T n sc vars a else xSs T n sc vars b) = some r) (E : Value → Shared → Prop) (Q : Flow → Shared → Prop)
    (q : ∀ f s', After hb sc env pb nb lent (Wr sc env vars val) s r f s' → Q f s') : wpAny (model prog w) A (exec (.If t a b pos) env) Q E s := by
  refine wpAny_If (ih.t A sc env vars _ s t c rm ht F.reads F.fresh E _ fun h1 tk1 st1 => ?_)
  cases c with
  | true => exact ih.ss A sc env pb nb lent vars val { s with heap := h1, toks := tk1 } a r rm hv (F.stays st1) E Q fun f s2 aft => q f s2 (aft.trans (Adv.stays st1))
  | false => exact ih.ss A sc env pb nb lent vars val { s with heap := h1, toks := tk1 } b r rm hv (F.stays st1) E Q fun f s2 aft => q f s2 (aft.trans (Adv.stays st1))
theorem step_while (ih : Snd T hb n) : WhileOk T hb (n + 1) := by
  intro A sc env pb nb lent vars val s test body r rm hv F R q
  obtain ⟨c, hc, hv⟩ := bnd (show (xT T n sc vars test).bind (fun c => bif c then (xSs T n sc vars body).bind (zNextW (zRec T n) sc test body) else some (.next vars)) = some r from hv)
  refine codeAny_of_tree ?_
  show wpAny _ A ((whileTurn test body [] env).onRaise (fun x => do noteFrame x env; theTreesLotGoes x)) _ _ s
  refine wpAny_noted ?_
  simp only [whileTurn]
  refine wpAny_bind (ih.t A sc env vars _ s test c rm.pred hc F.reads F.fresh _ _ fun h1 tk1 st1 => ?_)
  cases c with
  | false =>
    cases (show some (Res.next vars) = some r from hv)
    exact wpAny_bind (wpAny_execs_nil (wpAny_pure (q _ _ ⟨h1, tk1, rfl, rfl, val, F.stays st1, Adv.stays st1⟩)))
  | true =>
    obtain ⟨r1, hr1, hv⟩ := bnd (show (xSs T n sc vars body).bind (zNextW (zRec T n) sc test body) = some r from hv)
    refine wpAny_bind (ih.ss A sc env pb nb lent vars val { s with heap := h1, toks := tk1 } body r1 rm.pred hr1 (F.stays st1) _ _ fun f s2 aft => ?_)
    have aft := aft.trans (Adv.stays st1)
    cases r1 with
    | next vars1 =>
      obtain ⟨h2, tk2, rfl, rfl, val1, F1, adv⟩ := aft
      exact wpAny_pure ⟨rfl, ih.while_ A sc env pb nb lent vars1 val1 { s with heap := h2, toks := tk2 } test body r rm.pred hv F1 R fun f s3 aft3 => q f s3 (aft3.trans adv)⟩
    | ret v =>
      cases (show some (Res.ret v) = some r from hv)
      have aft' := aft
      obtain ⟨h2, tk2, rfl, cv, rfl, _⟩ := aft
      exact wpAny_pure (q _ _ aft')
end
end Mine
namespace Mine
open PySem PySem.Calls PyProof.Rows PySem.W PySem.SeqAt
section
variable {T : Tab} {hb h : Heap} {n : Nat} {A : Around} {sc : Scope} {env : Env} {vars : Vars} {pub pb nb : Addr → Prop} {lent : Addr} {val : Str → Option Value} {s : Shared} {p : Bool} {v : PV}
theorem Adv.union {W W' : Addr → Prop} {h h' : Heap} (a : Adv W h W' h') (V : Addr → Prop) : Adv (fun x => W x ∨ V x) h (fun x => W' x ∨ V x) h' :=
  ⟨a.kp.mono fun _ => .inl, fun x e => (a.ex x e).imp id .inl, fun x y => y.elim (fun z => (a.wr x z).imp .inl id) fun z => .inl (.inr z)⟩
theorem kp_its {wr : Addr → Prop} {h h' : Heap} (hi : ∀ a, wr a → ItOb h a) (k : ∀ b o, ¬ wr b → h.get? b = some o → h'.get? b = some o) : Kp wr h h' := fun a o e q => by
  refine k a o (q.elim id fun t v => ?_) e
  obtain ⟨o', vs, e', d⟩ := hi a v
  rw [e] at e'; cases e'
  obtain ⟨_, xs, m, d'⟩ := t
  rw [d] at d'; cases d'
theorem ex_its {wr : Addr → Prop} {h h' : Heap} (hi : ∀ a, wr a → ItOb h' a) (k : ∀ b o, ¬ wr b → h.get? b = some o → h'.get? b = some o) : ∀ a, h'.get? a = none → h.get? a = none := fun a e => by
  by_cases hw : wr a
  · exact absurd e (hi a hw).some
  · cases q : h.get? a with
    | none => rfl
    | some o => rw [k a o hw q] at e; cases e
theorem ex_or {wr : Addr → Prop} {h h' : Heap} (k : ∀ b o, ¬ wr b → h.get? b = some o → h'.get? b = some o) : ∀ a, h'.get? a = none → h.get? a = none ∨ wr a := fun a e => by
  by_cases hw : wr a
  · exact .inr hw
  · left
    cases q : h.get? a with
    | none => rfl
    | some o => rw [k a o hw q] at e; cases e
theorem Turns.go {α : Type} {target : Expr} {I : Addr} {pi wr dep : Addr → Prop} {its : List PV} {St : Nat → Heap → Prop} (W : Turns A target I pi wr dep its St) {i : Nat} {x : PV} {f : Option Value → Sem α} {k : Value → Sem α} {Q : α → Shared → Prop} {E : Value → Shared → Prop}
    (hx : its[i]? = some x) (st : St i s.heap) (hf : ∀ v, f (some v) = (letOwnedTupleGo target (.ref I) v >>= fun _ => k v))
    (q : ∀ v h' tk, VRep h' pi x v → St (i + 1) h' → (∀ b o, ¬ wr b → s.heap.get? b = some o → h'.get? b = some o) → wpAny (model prog w) A (k v) Q E { s with heap := h', toks := tk }) :
    wpAny (model prog w) A (pyNext (.ref I)) (fun r s₁ => wpAny (model prog w) A (f r) Q E s₁) E s := by
  refine wpAny_mono (W.item i x s E (fun v s₂ => wpAny (model prog w) A (k v) Q E s₂) hx st fun v h1 tk1 rv st1 k => q v h1 tk1 rv st1 k) (fun r s₁ hr => ?_) fun _ _ e => e
  obtain ⟨v, rfl, hr⟩ := hr
  rw [hf]
  exact wpAny_bind hr
theorem step_for (ih : Snd T hb n) : ForOk T hb (n + 1) := by
  intro A sc env pb nb lent vars val s target body r I pi wr dep its St i rm hv F W st hi hpi hwr hdep hwb hpn R q
  refine codeAny_of_tree ?_
  show wpAny _ A ((forTurn target (.ref I) body [] env).onRaise (fun x => do noteFrame x env; theTreesLotGoes x)) _ _ s
  refine wpAny_noted ?_
  simp only [forTurn]
  refine wpAny_bind (wpAny_standAt (wpAny_bind (wpAny_onRaise ?_)))
  cases hx : its[i]? with
  | none =>
    have hlen : i = its.length := by have := List.getElem?_eq_none_iff.mp hx; (first | with_reducible exact Nat.le_trans (by assumption) (by decide) | lia | omega)
    subst hlen
    rw [List.drop_length] at hv
    cases (show some (Res.next vars) = some r from hv)
    refine W.done s _ _ st fun h' tk k => wpAny_pure ⟨rfl, codeAny_block (wpAny_execs_nil (q _ _ ⟨h', tk, rfl, rfl, val, ?_, ?_⟩))⟩
    · exact F.move' (kp_its (fun a e => W.it _ _ a st e) k) (fun a e => .inl (W.it _ _ a st e)) (fun a e => (ex_or k a e).elim (F.pbf a) fun x => (hpn a x).1) hwb (fun _ x _ => x) fun a e => (ex_or k a e).elim (F.nbf a) fun x => (hpn a x).2
    · exact ⟨(kp_its (fun a e => W.it _ _ a st e) k).mono fun _ => .inr, fun a e => (ex_or k a e).imp id .inr, fun _ x => .inl (.inl x)⟩
  | some x =>
    have hdrop : its.drop i = x :: its.drop (i + 1) := by
      have hlt : i < its.length := (List.getElem?_eq_some_iff.mp hx).1
      rw [List.drop_eq_getElem_cons hlt, (List.getElem?_eq_some_iff.mp hx).2]
    have hlt : i < its.length := (List.getElem?_eq_some_iff.mp hx).1
    rw [hdrop] at hv
    obtain ⟨vars1, e1, hv⟩ := bnd (show (bindT n sc target x vars).bind (fun vars' => (xSs T n sc vars' body).bind (zNextF (zRec T n) sc target body (its.drop (i + 1)))) = some r from hv)
    obtain ⟨r1, e2, hv⟩ := bnd hv
    refine wpAny_mono (W.go hx st (fun v => rfl) fun v h1 tk1 rv st1 k => ?_) (fun _ _ x => x) fun _ _ e => wpAny_standAt e
    have kp1 := kp_its (fun a e => W.it _ _ a st e) k
    have ex1 := ex_its (fun a e => W.it _ _ a st1 e) k
    have F1 : Frame hb sc env pb nb lent vars val h1 := F.move kp1 (fun a e => .inl (W.it _ _ a st e)) ex1 hwb (fun _ x _ => x) fun a e => F.nbf a (ex1 a e)
    have adv1 : Adv (fun a => Wr sc env vars val a ∨ wr a) s.heap (fun a => Wr sc env vars val a ∨ wr a) h1 := ⟨kp1.mono fun _ => .inr, fun a e => .inl (ex1 a e), fun _ x => .inl x⟩
    refine wpAny_bind ((bind_sound rm.h n).1 target x vars vars1 val { s with heap := h1, toks := tk1 } v pi _ _ e1 F1 rv (fun a o => ⟨(hpi a o).1, (hpi a o).2.1⟩) fun h2 tk2 val1 F2 adv2 hw2 => ?_)
    refine wpAny_bind (ih.ss A sc env pb nb lent vars1 val1 { s with heap := h2, toks := tk2 } body r1 rm.pred e2 F2 _ _ fun f s3 aft => ?_)
    have aft2 : After hb sc env pb nb lent (fun a => Wr sc env vars val a ∨ wr a) s r1 f s3 := (aft.mono' (V := fun a => Wr sc env vars1 val1 a ∨ wr a) fun _ => .inl).trans (adv1.trans (adv2.union wr))
    cases r1 with
    | ret u =>
      cases (show some (Res.ret u) = some r from hv)
      have a' := aft2
      obtain ⟨h3, tk3, rfl, cv, rfl, _⟩ := aft2
      exact wpAny_pure (q _ _ a')
    | next vars2 =>
      obtain ⟨h3, tk3, rfl, rfl, val2, F3, adv3⟩ := aft
      have tot : Adv (Wr sc env vars val) h1 (Wr sc env vars2 val2) h3 := adv2.trans adv3
      have notW : ∀ a, ¬ Wr sc env vars val a → s.heap.get? a ≠ none → ¬ Wr sc env vars2 val2 a := fun a n1 n2 x => (tot.wr a x).elim n1 fun z => n2 (ex1 a z)
      have here : ∀ a, ¬ Wr sc env vars val a → s.heap.get? a ≠ none → h3.get? a ≠ none := fun a n e z => (tot.ex a z).elim (fun z => e (ex1 a z)) n
      have st3 : St (i + 1) h3 := W.frame (Wr sc env vars val) (i + 1) h1 h3 (fun a o => (hpi a o).2.1) hwr (fun a o => (hdep a o).1) tot.kp st1
      refine wpAny_pure ⟨rfl, ih.for_ A sc env pb nb lent vars2 val2 { s with heap := h3, toks := tk3 } target body r I pi wr dep its St (i + 1) rm.pred hv F3 W st3 hlt
        (fun a o => ⟨(hpi a o).1, notW a (hpi a o).2.1 (hpi a o).2.2, here a (hpi a o).2.1 (hpi a o).2.2⟩) (fun a o => notW a (hwr a o) (W.it _ _ a st o).some) (fun a o => ⟨notW a (hdep a o).1 (hdep a o).2, here a (hdep a o).1 (hdep a o).2⟩) hwb hpn R fun f s4 aft4 => ?_⟩
      exact q f s4 (aft4.trans (adv1.trans (tot.union wr)))
theorem Frame.freeze1 {x : Str} {v : PV} (F : Frame hb sc env pb nb lent vars val h) (hx : look x vars = some (.O, v)) : Frame hb sc env pb nb lent (setV x (.P, v) vars) val h ∧ ∀ a, Wr sc env (setV x (.P, v) vars) val a → Wr sc env vars val a := by
  have hwr : ∀ a, Wr sc env (setV x (.P, v) vars) val a → Wr sc env vars val a := by
    rintro a (rfl | hx' | ⟨y, my, vy, hy, hm, hv⟩)
    · exact .inl rfl
    · exact .inr (.inl hx')
    · by_cases hyx : y = x
      · subst hyx; rw [look_setV, if_pos rfl] at hy; cases hy; cases hm
      · rw [look_isSome hyx] at hy; exact .inr (.inr ⟨y, my, vy, hy, hm, hv⟩)
  have hsome : ∀ y, (look y (setV x (.P, v) vars)).isSome = true → (look y vars).isSome = true := fun y e => by
    by_cases hyx : y = x
    · subst hyx; rw [hx]; rfl
    · rwa [look_isSome hyx] at e
  refine ⟨{ F with
    ns := let ⟨m, a, b⟩ := F.ns; ⟨m, a, fun y cv h1 h2 h3 => b y cv h1 (hsome y h2) h3⟩
    cel := fun y hy => let ⟨c, u, a, b, d, e⟩ := F.cel y hy; ⟨c, u, a, b, d, fun cv h1 h2 => e cv (hsome y h1) h2⟩
    slots := fun y md u hy => ?_
    own1 := fun y z my vy mz vz a hy hmy hz hmz h1 h2 => ?_
    sepL := fun y md u hy hm => ?_
    old := fun a e => F.old a (hwr a e) }, hwr⟩
  · by_cases hyx : y = x
    · subst hyx
      rw [look_setV, if_pos rfl] at hy; cases hy
      obtain ⟨cv, hcv, hi, a, rfl, r, hp, hn⟩ := F.slots y .O v hx
      refine ⟨_, hcv, ?_⟩
      have notW : ∀ b, b = a ∧ Cont h b → ¬ Wr sc env (setV y (.P, v) vars) val b := by
        rintro b ⟨rfl, hc⟩ (rfl | ⟨z, hz, hc'⟩ | ⟨z, mz, vz, hz, hm, hv⟩)
        · exact F.sepL y .O v hx rfl hcv
        · obtain ⟨c, w', h1, h2, _⟩ := F.cel z (.inl hz)
          rw [hc'] at h1; cases h1; exact cell_cont h2 hc
        · by_cases hzy : z = y
          · subst hzy; rw [look_setV, if_pos rfl] at hz; cases hz; cases hm
          · rw [look_isSome hzy] at hz
            exact hzy (F.own1 z y mz vz .O v b hz hm hx rfl hv hcv)
      exact r.here.weaken fun b o => ⟨by obtain ⟨rfl, _⟩ := o; exact ⟨hp, hn⟩, notW b o⟩
    · rw [look_isSome hyx] at hy
      obtain ⟨cv, h1, h2⟩ := F.slots y md u hy
      exact ⟨cv, h1, h2.move (Kp.refl (fun _ => False) h) (fun a _ hna hw => ⟨id, hna, fun e => hw (hwr a e)⟩) fun _ a _ hna _ => ⟨id, hna⟩⟩
  · have old : ∀ y my vy, look y (setV x (.P, v) vars) = some (my, vy) → ownM my = true → look y vars = some (my, vy) := fun y my vy hy hm => by
      by_cases hyx : y = x
      · subst hyx; rw [look_setV, if_pos rfl] at hy; cases hy; cases hm
      · rwa [look_isSome hyx] at hy
    exact F.own1 y z my vy mz vz a (old y my vy hy hmy) hmy (old z mz vz hz hmz) hmz h1 h2
  · by_cases hyx : y = x
    · subst hyx; rw [look_setV, if_pos rfl] at hy; cases hy; cases hm
    · rw [look_isSome hyx] at hy; exact F.sepL y md u hy hm
theorem Frame.frozen (it : Expr) (F : Frame hb sc env pb nb lent vars val h) : Frame hb sc env pb nb lent (freeze it vars) val h ∧ ∀ a, Wr sc env (freeze it vars) val a → Wr sc env vars val a := by
  unfold Mine.freeze
  cases walked it with
  | none => exact ⟨F, fun _ x => x⟩
  | some x =>
    dsimp only
    split
    · rename_i hx; exact F.freeze1 hx
    · exact ⟨F, fun _ x => x⟩
theorem iterS_noset {vars : Vars} {tup : Bool} {e : Expr} {its : List PV} (h : xIterS T n sc vars tup e = some its) : ∀ elts k pos, e ≠ .Set elts k pos := by
  rintro elts k pos rfl
  cases n with
  | zero => exact noS h
  | succ n => cases n <;> exact noS h
theorem s_for (ih : Snd T hb n) (rm : Room A n) {t it : Expr} {body : List Stmt} {pos : Pos} {items : List PV} {r : Res} (F : Frame hb sc env pb nb lent vars val s.heap)
    (h1 : xIterS T n sc (Mine.freeze it vars) (isTupT t) it = some items) (h2 : xFor T n sc (Mine.freeze it vars) t body items = some r) (E : Value → Shared → Prop) (Q : Flow → Shared → Prop)
    (q : ∀ f s', After hb sc env pb nb lent (Wr sc env vars val) s r f s' → Q f s') : wpAny (model prog w) A (exec (.For t it body [] pos) env) Q E s := by
  obtain ⟨F1, hw⟩ := F.frozen it
  refine wpAny_For (ih.iterS A sc env pb nb lent (Mine.freeze it vars) val s t (isTupT t) it items rm h1 id F1 E _ fun itv s2 pk => ?_) (folded_of (iterS_noset h1))
  obtain ⟨I, wr, dep, St, h', tk, rfl, rfl, st, W, st0, hwr, hdep⟩ := pk
  have inS : ∀ a, Wr sc env (Mine.freeze it vars) val a → s.heap.get? a ≠ none := fun a e => (F1.wr_mut e).some
  refine ih.for_ A sc env pb nb lent (Mine.freeze it vars) val { s with heap := h', toks := tk } t body r I _ wr dep items St 0 rm (by simpa using h2) (F1.stays st) W st0 (Nat.zero_le _)
    (fun a o => ⟨o.1.1, o.1.2, o.2⟩) (fun a o e => inS a e (hwr a o)) (fun a o => ⟨fun e => (hdep a o).2.elim (inS a e) fun k => k e, (hdep a o).1⟩) (fun a o => none_of_stays F.base (hwr a o)) (fun a o => ⟨F1.pbf a (hwr a o), F1.nbf a (hwr a o)⟩) _ fun f s3 aft => ?_
  refine q f s3 ?_
  have adv : Adv (Wr sc env vars val) s.heap (fun a => Wr sc env (Mine.freeze it vars) val a ∨ wr a) h' := ⟨Kp.of_stays st, fun _ e => .inl (none_of_stays st e), fun a e => e.elim (fun e => .inl (hw a e)) fun e => .inr (hwr a e)⟩
  exact aft.trans adv
end
end Mine
namespace Mine
open PySem PySem.Calls PyProof.Rows PySem.W PySem.SeqAt
section
variable {T : Tab} {hb h h₀ h' : Heap} {n : Nat} {A : Around} {sc : Scope} {env : Env} {vars : Vars} {pub : Pubs} {pl pb nb : Addr → Prop} {lent : Addr} {val : Str → Option Value} {s : Shared} {p : Bool} {v : PV}
theorem look_borrow (x : Str) : ∀ vars : Vars, look x (borrow vars) = (look x vars).map fun sl => (.B, sl.2)
  | [] => rfl
  | (y, md, u) :: r => by
    unfold borrow look
    split
    · rfl
    · exact look_borrow x r
theorem Reads.borrow (R : Reads hb sc env pub vars h) (p' : Addr → Prop) : Reads hb sc env ⟨p', fun _ => True, fun _ _ => trivial⟩ (Mine.borrow vars) h := { R with
  vars := by
    obtain ⟨m, hn, r⟩ := R.vars
    refine ⟨m, hn, fun x md v hx => ?_⟩
    rw [look_borrow] at hx
    cases q : look x vars with
    | none => rw [q] at hx; cases hx
    | some sl =>
      obtain ⟨md', u⟩ := sl
      rw [q] at hx; cases hx
      obtain ⟨cv, h1, _, h3, h4⟩ := r x md' u q
      exact ⟨cv, h1.weaken fun _ _ => trivial, (fun e => by cases e), h3, h4⟩ }
theorem own_of {v : PV} {cv : Value} {ok : Addr → Prop} (hc : isCont v = true) (hi : okItems v = true) (r : VRep h ok v cv) : ∃ a, cv = .ref a ∧ VRep h (fun b => b = a) v cv ∧ ok a := by
  cases r with
  | list o hl ha => exact ⟨_, rfl, .list rfl hl (imms_any hi ha), o⟩
  | dictT xs o hd n e ha =>
    have hi' : PV.imms _ = true := (Bool.and_eq_true_iff.mp hi).2
    exact ⟨_, rfl, .dictT xs rfl hd n e (imms_any hi' ha), o⟩
  | dictA xs o hd n e ha =>
    have hi' : PV.imms _ = true := (Bool.and_eq_true_iff.mp hi).2
    exact ⟨_, rfl, .dictA xs rfl hd n e (imms_any hi' ha), o⟩
  | _ => cases hc
theorem step_slot (ih : Snd T hb n) : SlotOk T hb (n + 1) := by
  intro A sc env vars pub s e md v rm hv R F E Q q
  have hv : (bif isDisplay e then (xE T n sc (Mine.borrow vars) e).bind ownP else (xE T n sc vars e).bind pubM) = some (md, v) := hv
  cases hdis : isDisplay e with
  | true =>
    rw [hdis] at hv
    obtain ⟨a, ha, hv⟩ := bnd hv
    unfold ownP at hv
    split at hv
    · rename_i hc
      simp only [Bool.and_eq_true] at hc
      cases hv
      refine ih.e A sc env (Mine.borrow vars) ⟨fun b => s.heap.get? b = none, fun _ => True, fun _ _ => trivial⟩ s e a.1 a.2 rm.pred ha (R.borrow _) (fun _ e => e) E _ fun cv h1 tk1 st1 r1 => ?_
      obtain ⟨x, h2, h3, h4⟩ := own_of hc.2 hc.1.2 (r1 _ (.inr (.inr ⟨hc.1.1, rfl⟩)))
      exact q cv h1 tk1 st1 (.inr ⟨rfl, hc.1.2, x, h2, h3, h4⟩)
    · cases hv
  | false =>
    rw [hdis] at hv
    obtain ⟨a, ha, hv⟩ := bnd hv
    unfold pubM at hv
    split at hv
    · rename_i hc
      cases hv
      exact ih.e A sc env vars pub s e a.1 a.2 rm.pred ha R F E _ fun cv h1 tk1 st1 r1 => q cv h1 tk1 st1 (.inl ⟨rfl, r1 _ (.inr (.inr ⟨hc, rfl⟩))⟩)
    · cases hv
noncomputable def Pubs.but (pub : Pubs) (a : Addr) : Pubs := ⟨fun b => pub.p b ∧ b ≠ a, pub.nw, fun b o => pub.sub b o.1⟩
theorem Reads.avoid {a : Addr} (R : Reads hb sc env pub vars h) (st : h.StaysIn h') (ha : h.get? a = none) : Reads hb sc env (pub.but a) vars h' := { R.stays st with
  vars := by
    obtain ⟨m, hn, r⟩ := R.vars
    refine ⟨m, hn.keeps st, fun x md v hx => ?_⟩
    obtain ⟨cv, h1, h2, h3, h4⟩ := r x md v hx
    exact ⟨cv, h1.stays st fun _ x => x, fun e => (h2 e).exist.stays st fun b o => ⟨o.1, fun e => o.2 (e ▸ ha)⟩, h3, fun e => let ⟨c, a, b⟩ := h4 e; ⟨c, a, b.keeps st⟩⟩ }
theorem SlotsGot.fresh {ss : List (Mode × PV)} {cs : List Value} {D : List Addr} (g : SlotsGot h₀ h pl ss cs D) : ∀ a ∈ D, h₀.get? a = none := by
  induction g with
  | nil => intro a ha; cases ha
  | pub _ _ ih => exact ih
  | own _ _ hn _ _ ih =>
    intro a ha
    rcases List.mem_cons.mp ha with rfl | ha
    · exact hn
    · exact ih a ha
theorem SlotsGot.back {h₁ : Heap} {ss : List (Mode × PV)} {cs : List Value} {D : List Addr} (g : SlotsGot h₁ h pl ss cs D) (st : h₀.StaysIn h₁) : SlotsGot h₀ h pl ss cs D := by
  induction g with
  | nil => exact .nil
  | pub a _ ih => exact .pub a ih
  | own hi hr hn hd _ ih => exact .own hi hr (none_of_stays st hn) hd ih
theorem step_slots (ih : Snd T hb n) : SlotsOk T hb (n + 1) := by
  intro A sc env vars pub s es ss rm hv R F pos E Q q
  cases es with
  | nil => cases (show some [] = some ss from hv); exact wpAny_items_nil (q _ s.heap s.toks [] (stays_refl _) .nil (fun a ha => by cases ha))
  | cons e r =>
    obtain ⟨⟨md, v⟩, ha, hv⟩ := bnd (show (xSlot T n sc vars e).bind (fun s => (xSlots T n sc vars r).bind fun ss => some (s :: ss)) = some ss from hv)
    obtain ⟨as, has, hv⟩ := bnd hv
    cases hv
    have star : starEach (e :: r) env = (false, eval e env) :: starEach r env := by
      cases e with
      | Starred => cases n with
        | zero => exact noS ha
        | succ n => cases n <;> exact noS ha
      | _ => rfl
    refine wpAny_items_cons ?_ star
    refine ih.slot A sc env vars pub s e md v rm.pred ha R F E _ fun c1 h1 tk1 st1 g1 => ?_
    rcases g1 with ⟨rfl, r1⟩ | ⟨rfl, hi, a, rfl, r1, hn⟩
    · refine ih.slots A sc env vars pub { s with heap := h1, toks := tk1 } r as rm.pred has (R.stays st1) (fresh_stays F st1) pos E _ fun cs h2 tk2 D st2 g2 hD => ?_
      refine q _ h2 tk2 D (stays_trans st1 st2) (.pub (r1.exist.stays st2 fun b o => ⟨o.1, fun hm => o.2 (g2.fresh b hm)⟩) (g2.back st1)) hD
    · have hex : h1.get? a ≠ none := r1.ref_some.some
      refine ih.slots A sc env vars (pub.but a) { s with heap := h1, toks := tk1 } r as rm.pred has (R.avoid st1 hn) (fun b e => ⟨F b (none_of_stays st1 e), fun q => hex (q ▸ e)⟩) pos E _ fun cs h2 tk2 D st2 g2 hD => ?_
      refine q _ h2 tk2 (a :: D) (stays_trans st1 st2) (.own hi (r1.stays st2 fun _ x => x) hn (fun hm => hex (g2.fresh a hm)) (g2.back st1)) fun b hb' => ?_
      rcases List.mem_cons.mp hb' with rfl | hb'
      · exact fun e => hex (none_of_stays st2 e)
      · exact hD b hb'
inductive Sl2 (h₀ h : Heap) (pl Z : Addr → Prop) : List (Mode × PV) → List Value → List Addr → Prop
  | nil : Sl2 h₀ h pl Z [] [] []
  | pub {v : PV} {cv : Value} {ss : List (Mode × PV)} {cs : List Value} {D : List Addr} (a : VRep h (fun a => pl a ∧ ¬ Z a) v cv) (r : Sl2 h₀ h pl Z ss cs D) : Sl2 h₀ h pl Z ((.P, v) :: ss) (cv :: cs) D
  | own {v : PV} {a : Addr} {ss : List (Mode × PV)} {cs : List Value} {D : List Addr} (hi : okItems v = true) (hr : VRep h (fun b => b = a) v (.ref a)) (hn : h₀.get? a = none) (hz : Z a) (r : Sl2 h₀ h pl Z ss cs D) :
      Sl2 h₀ h pl Z ((.O, v) :: ss) (.ref a :: cs) (a :: D)
theorem Sl2.congr {Z Z' : Addr → Prop} {ss : List (Mode × PV)} {cs : List Value} {D : List Addr} (g : Sl2 h₀ h pl Z ss cs D) (e : ∀ a, Z a ↔ Z' a) : Sl2 h₀ h pl Z' ss cs D := by
  induction g with
  | nil => exact .nil
  | pub a _ ih => exact .pub (a.weaken fun b o => ⟨o.1, fun z => o.2 ((e b).mpr z)⟩) ih
  | own hi hr hn hz _ ih => exact .own hi hr hn ((e _).mp hz) ih
theorem Sl2.append {Z : Addr → Prop} {ss ss2 : List (Mode × PV)} {cs cs2 : List Value} {D D2 : List Addr} (g : Sl2 h₀ h pl Z ss cs D) (g2 : Sl2 h₀ h pl Z ss2 cs2 D2) : Sl2 h₀ h pl Z (ss ++ ss2) (cs ++ cs2) (D ++ D2) := by
  induction g with
  | nil => exact g2
  | pub a _ ih => exact .pub a ih
  | own hi hr hn hz _ ih => exact .own hi hr hn hz ih
theorem Sl2.reverse {Z : Addr → Prop} {ss : List (Mode × PV)} {cs : List Value} {D : List Addr} (g : Sl2 h₀ h pl Z ss cs D) : Sl2 h₀ h pl Z ss.reverse cs.reverse D.reverse := by
  induction g with
  | nil => exact .nil
  | pub a _ ih => simpa using ih.append (.pub a .nil)
  | own hi hr hn hz _ ih => simpa using ih.append (.own hi hr hn hz .nil)
theorem Sl2.kp {Z V : Addr → Prop} {ss : List (Mode × PV)} {cs : List Value} {D : List Addr} (g : Sl2 h₀ h pl Z ss cs D) (k : Kp V h h') (hV : ∀ a, pl a → ¬ Z a → ¬ V a) (hZ : ∀ a ∈ D, ¬ V a) : Sl2 h₀ h' pl Z ss cs D := by
  induction g with
  | nil => exact .nil
  | pub a _ ih => exact .pub (a.kp k fun b o => ⟨hV b o.1 o.2, o⟩) (ih hZ)
  | own hi hr hn hz _ ih => exact .own hi (hr.kp k fun b o => ⟨by subst o; exact hZ _ (.head _), o⟩) hn hz (ih fun a ha => hZ a (.tail _ ha))
theorem SlotsGot.sl2 {pub1 : Addr → Prop} {ss : List (Mode × PV)} {cs : List Value} {D : List Addr} (g : SlotsGot h₀ h pub1 ss cs D) : ∀ (pre : List Addr), (∀ b, pub1 b → pl b ∧ b ∉ pre) →
    Sl2 h₀ h pl (fun b => b ∈ pre ∨ b ∈ D) ss cs D ∧ D.Nodup := by
  induction g with
  | nil => exact fun _ _ => ⟨.nil, List.nodup_nil⟩
  | pub a _ ih => exact fun pre hp => ⟨.pub (a.weaken fun b o => ⟨(hp b o.1).1, fun z => z.elim (hp b o.1).2 o.2⟩) (ih pre hp).1, (ih pre hp).2⟩
  | @own pub1 v a ss cs D hi hr hn hd _ ih =>
    intro pre hp
    obtain ⟨g, nd⟩ := ih (a :: pre) fun b o => ⟨(hp b o.1).1, fun m => (List.mem_cons.mp m).elim o.2 (hp b o.1).2⟩
    refine ⟨.own hi hr hn (.inr (.head _)) (g.congr fun b => ?_), List.nodup_cons.mpr ⟨hd, nd⟩⟩
    simp only [List.mem_cons]
    constructor
    · rintro ((rfl | x) | x)
      · exact .inr (.inl rfl)
      · exact .inl x
      · exact .inr (.inr x)
    · rintro (x | rfl | x)
      · exact .inl (.inr x)
      · exact .inl (.inl rfl)
      · exact .inr x
theorem Sl2.inZ {Z : Addr → Prop} {ss : List (Mode × PV)} {cs : List Value} {D : List Addr} (g : Sl2 h₀ h pl Z ss cs D) : ∀ a ∈ D, Z a := by
  induction g with
  | nil => intro a ha; cases ha
  | pub _ _ ih => exact ih
  | own _ _ _ hz _ ih =>
    intro a ha
    rcases List.mem_cons.mp ha with rfl | ha
    · exact hz
    · exact ih a ha
theorem Frame.wr_nb (F : Frame hb sc env pb nb lent vars val h) {a : Addr} (x : Wr sc env vars val a) : nb a := by
  rcases x with rfl | ⟨x, hx, hc⟩ | ⟨x, md, v, hx, hm, hv⟩
  · exact F.nbL
  · obtain ⟨c, u, hl, _, hn, _⟩ := F.cel x (.inl hx)
    rw [hc] at hl; cases hl; exact hn
  · obtain ⟨cv, hcv, s⟩ := F.slots x md v hx
    rw [hv] at hcv; cases hcv
    obtain ⟨_, b, e, _, hn⟩ := s.own hm
    cases e; exact hn
noncomputable def Stores (A : Around) (env : Env) (t : Value → Sem Unit) (x : Str) : Prop := ∀ (v : Value) (s : Shared) (E : Value → Shared → Prop) (Q : Unit → Shared → Prop), wpAny (model prog w) A (storeName env x v) Q E s → wpAny (model prog w) A (t v) Q E s
inductive StoresAll (A : Around) (env : Env) : List (Value → Sem Unit) → List Str → Prop
  | nil : StoresAll A env [] []
  | cons {t : Value → Sem Unit} {x : Str} {ts : List (Value → Sem Unit)} {xs : List Str} (a : Stores A env t x) (r : StoresAll A env ts xs) : StoresAll A env (t :: ts) (x :: xs)
theorem store_all {Z W₀ : Addr → Prop} (hZ : ∀ a, Z a → hb.get? a = none ∧ pb a ∧ nb a) : ∀ (xs : List Str) (ts : List (Value → Sem Unit)) (ss : List (Mode × PV)) (cs : List Value) (D : List Addr) (vars vars' : Vars) (val : Str → Option Value) (s : Shared) (E : Value → Shared → Prop) (Q : Unit → Shared → Prop),
    setAll xs ss vars = some vars' → (∀ x ∈ xs, ownK sc x = true) → StoresAll A env ts xs → Frame hb sc env pb (fun b => nb b ∧ b ∉ D) lent vars val s.heap → Sl2 h₀ s.heap (fun a => (pb a ∧ nb a) ∧ ¬ W₀ a) Z ss cs D → D.Nodup →
    (∀ a, Wr sc env vars val a → W₀ a ∨ Z a) →
    (∀ h' tk val', Frame hb sc env pb nb lent vars' val' h' → Kp (fun a => W₀ a ∨ Z a) s.heap h' → (∀ a, h'.get? a = none → s.heap.get? a = none ∨ (W₀ a ∨ Z a)) → (∀ a, Wr sc env vars' val' a → W₀ a ∨ Z a) → Q () { s with heap := h', toks := tk }) →
    wpAny (model prog w) A (assignInOrder ts cs) Q E s
  | [], ts, ss, cs, D, vars, vars', val, s, E, Q, e, _, hts, F, g, nd, hw, q => by
    cases ss with
    | cons => exact noS e
    | nil =>
      cases g; cases hts; cases (show some vars = some vars' from e)
      refine wpAny_pure (q s.heap s.toks val ?_ (Kp.refl _ _) (fun _ x => .inl x) hw)
      exact F.narrow (stays_refl _) (fun a x _ => x.1) fun a x => (F.nbf a x).1
  | x :: xs, ts, ss, cs, D, vars, vars', val, s, E, Q, e, hxs, hts, F, g, nd, hw, q => by
    cases hts with | cons st hts =>
    rename_i t ts
    cases g with
    | nil => exact noS e
    | @pub v cv ss cs D a r =>
      have e : setAll xs ss (setV x (.P, v) vars) = some vars' := e
      refine wpAny_bind (wpAny_holding (st cv s E _ (F.storeP (hxs x (.head _)) a (fun b o => ⟨⟨o.1.1.1, o.1.1.2, fun m => o.2 (Sl2.inZ r b m)⟩, fun y => (hw b y).elim o.1.2 o.2⟩) fun h1 tk1 F1 adv1 hw1 => ?_)))
      have r' := r.kp adv1.kp (fun b hp hz y => (hw b y).elim hp.2 hz) fun b hb' y => (F.wr_nb y).2 hb'
      exact store_all hZ xs ts ss cs D _ vars' _ { s with heap := h1, toks := tk1 } E Q e (fun y hy => hxs y (.tail _ hy)) hts F1 r' nd (fun b y => hw b (hw1 b y)) fun h2 tk2 val2 F2 k2 ex2 hw2 =>
        q h2 tk2 val2 F2 ((adv1.kp.mono hw).trans k2) (fun b y => (ex2 b y).elim (fun z => (adv1.ex b z).imp id (hw b)) .inr) hw2
    | @own v a ss cs D hi hr hn hz r =>
      have e : setAll xs ss (setV x (.O, v) vars) = some vars' := e
      have nd' := List.nodup_cons.mp nd
      have hsl : NewSlot hb s.heap pb (fun b => nb b ∧ b ∉ D) (fun b => nb b ∧ b ∉ a :: D) (Wr sc env vars val) .O v (.ref a) :=
        .inr ⟨rfl, hi, a, rfl, hr, (hZ a hz).2.1, ⟨(hZ a hz).2.2, nd'.1⟩, fun o => o.2 (.head _), (hZ a hz).1⟩
      refine wpAny_bind (wpAny_holding (st (.ref a) s E _ (F.store (hxs x (.head _)) (fun b o => ⟨o.1, fun m => o.2 (.tail _ m)⟩) hsl fun h1 tk1 F1 k1 ex1 => ?_)))
      have r' := r.kp k1 (fun b hp hz y => (hw b y).elim hp.2 hz) fun b hb' y => (F.wr_nb y).2 (.tail _ hb')
      have hw1 : ∀ b, Wr sc env (setV x (.O, v) vars) (setF val x (.ref a)) b → W₀ b ∨ Z b := fun b y => (Frame.set_wr hsl b y).elim (hw b) fun e => by cases e.2; exact .inr hz
      exact store_all hZ xs ts ss cs D _ vars' _ { s with heap := h1, toks := tk1 } E Q e (fun y hy => hxs y (.tail _ hy)) hts F1 r' nd'.2 hw1 fun h2 tk2 val2 F2 k2 ex2 hw2 =>
        q h2 tk2 val2 F2 ((k1.mono hw).trans k2) (fun b y => (ex2 b y).imp (ex1 b) id) hw2
end
end Mine
set_option backward.match.sparseCases true
namespace Mine
open PySem PySem.Calls PyProof.Rows PySem.W PySem.SeqAt
section
variable {T : Tab} {hb h h₀ h' : Heap} {n : Nat} {A : Around} {sc : Scope} {env : Env} {vars : Vars} {pub pb nb : Addr → Prop} {lent : Addr} {val : Str → Option Value} {s : Shared} {p : Bool} {v : PV}
theorem noneIn_iff {x : Str} : ∀ {l : List Str}, noneIn x l = true → x ∉ l
  | [], _, h => by cases h
  | y :: r, e, h => by
    simp only [noneIn, Bool.and_eq_true, Bool.not_eq_true'] at e
    rcases List.mem_cons.mp h with rfl | h
    · rw [strEq_self] at e; cases e.1
    · exact noneIn_iff e.2 h
theorem allApart_nodup : ∀ {l : List Str}, allApart l = true → l.Nodup
  | [], _ => List.nodup_nil
  | x :: r, e => by
    simp only [allApart, Bool.and_eq_true] at e
    exact List.nodup_cons.mpr ⟨noneIn_iff e.1, allApart_nodup e.2⟩
theorem eraseDups_nodup : ∀ {l : List Str}, l.Nodup → l.eraseDups = l
  | [], _ => rfl
  | x :: r, e => by
    have e' := List.nodup_cons.mp e
    rw [List.eraseDups_cons]
    have : r.filter (fun b => !b == x) = r := List.filter_eq_self.mpr fun b hb' => by
      have : b ≠ x := fun q => e'.1 (q ▸ hb')
      simpa using this
    rw [this, eraseDups_nodup e'.2]
theorem slots_nostar {vars : Vars} : ∀ {es : List Expr} {n : Nat} {ss : List (Mode × PV)}, xSlots T n sc vars es = some ss → (es.any fun | .Starred .. => true | _ => false) = false ∧ ss.length = es.length
  | [], n, ss, h => by
    cases n with
    | zero => exact noS h
    | succ n => cases (show some [] = some ss from h); exact ⟨rfl, rfl⟩
  | e :: r, n, ss, h => by
    cases n with
    | zero => exact noS h
    | succ n =>
      obtain ⟨a, ha, hv⟩ := bnd (show (xSlot T n sc vars e).bind (fun s => (xSlots T n sc vars r).bind fun ss => some (s :: ss)) = some ss from h)
      obtain ⟨as, has, hv⟩ := bnd hv
      cases hv
      obtain ⟨h1, h2⟩ := slots_nostar has
      refine ⟨?_, by simp [h2]⟩
      rw [List.any_cons, h1, Bool.or_false]
      cases e with
      | Starred =>
        cases n with
        | zero => exact noS ha
        | succ n => cases n <;> exact noS ha
      | _ => rfl
theorem kindOf_kind {x : Str} {k : NameKind} (hkok : ∀ x k, kindIn x sc.names = some k → env.kindOf x = some k ∨ (k = .free ∧ env.kindOf x = some .cell)) (h : kindIn x sc.names = some k) (hk : k ≠ .free) : env.kindOf x = some k :=
  (hkok x k h).elim id fun e => absurd e.1 hk
theorem rowNames_filter (hkok : ∀ x k, kindIn x sc.names = some k → env.kindOf x = some k ∨ (k = .free ∧ env.kindOf x = some .cell)) {line : Nat} : ∀ {ts : List Expr} {l : List Str}, rowNames sc line ts = some l →
    (ts.filterMap fun | .Name id pos => if env.kindOf id == some .local && pos.line == line then some id else none | _ => none) = l ∧ l.length = ts.length ∧ ∀ x ∈ l, kindIn x sc.names = some .local
  | [], l, h => by cases h; exact ⟨rfl, rfl, fun x hx => by cases hx⟩
  | t :: r, l, h => by
    obtain ⟨⟨x, p⟩, hn, h2⟩ := bnd (show (nameOf2 t).bind (fun x => bif isLoc (kindIn x.1 sc.names) && x.2.line == line then (rowNames sc line r).bind (fun q => some (x.1 :: q)) else none) = some l from h)
    obtain rfl := nameOf2_eq hn
    obtain ⟨hc, h2⟩ := onlyIf h2
    obtain ⟨hk, hl⟩ := two hc
    have hk := isLoc_eq hk
    obtain ⟨l', h1, h2⟩ := bnd h2
    cases h2
    obtain ⟨i1, i2, i3⟩ := rowNames_filter hkok h1
    refine ⟨?_, congrArg (· + 1) i2, fun y hy => ?_⟩
    · refine (List.filterMap_cons_some (b := x) ?_).trans (congrArg (x :: ·) i1)
      show (if (env.kindOf x == some .local && p.line == line) = true then some x else none) = some x
      rw [kindOf_kind hkok hk (by decide), hl]
      rfl
    · rcases List.mem_cons.mp hy with rfl | hy
      · exact hk
      · exact i3 y hy
theorem tsNames_mem : ∀ {ts : List Expr} {l : List Str}, tsNames ts = some l → l.length = ts.length ∧ StoresAll A env ((assignEach ts env).map (·.2)) l ∧ (assignEach ts env).length = ts.length ∧ (assignEach ts env).findIdx? (·.1) = none ∧ ∀ x ∈ l, ∃ p, Expr.Name x p ∈ ts
  | [], l, h => by cases h; exact ⟨rfl, .nil, rfl, rfl, fun x hx => by cases hx⟩
  | t :: r, l, h => by
    obtain ⟨x, hn, h2⟩ := bnd (show (nameOf t).bind (fun x => (tsNames r).bind (fun q => some (x :: q))) = some l from h)
    obtain ⟨p, rfl⟩ := nameOf_eq hn
    obtain ⟨l', h1, h2⟩ := bnd h2
    cases h2
    obtain ⟨i1, i2, i3, i4, i5⟩ := tsNames_mem h1
    refine ⟨congrArg (· + 1) i1, .cons (fun v s E Q q => wpAny_assign_Name q) i2, congrArg (· + 1) i3, ?_, fun y hy => ?_⟩
    · show ((false, assign (.Name x p) env) :: assignEach r env).findIdx? (·.1) = none
      rw [List.findIdx?_cons, i4]; rfl
    · rcases List.mem_cons.mp hy with rfl | hy
      · exact ⟨p, .head _⟩
      · obtain ⟨p', hp⟩ := i5 y hy; exact ⟨p', .tail _ hp⟩
theorem filterMap_lt {ts : List Expr} {f : Expr → Option Str} {t : Expr} (ht : t ∈ ts) (hf : f t = none) : (ts.filterMap f).length < ts.length := by
  induction ts with
  | nil => cases ht
  | cons a r ih =>
    rw [List.filterMap_cons]
    rcases List.mem_cons.mp ht with rfl | ht
    · rw [hf]; simp only [List.length_cons]; have := List.length_filterMap_le f r; omega
    · have := ih ht
      cases f a <;> simp only [List.length_cons] <;> omega
theorem ite_both {α : Type} {c : Prop} [Decidable c] {a b : α} (h : b = a) : (if c then a else b) = a := by
  by_cases q : c
  · exact if_pos q
  · exact (if_neg q).trans h
theorem swapped_none {ts es : List Expr} {k k2 : Nat} {p p2 : Pos} {x : Str} {q : Pos} (hx : Expr.Name x q ∈ ts) (hk : env.kindOf x ≠ some .local) : swappedStores [.Tuple ts k p] (.Tuple es k2 p2) env = pure none := by
  unfold swappedStores
  refine ite_both (ite_both (if_pos ?_))
  refine (Bool.or_eq_true _ _).mpr (.inl (bne_iff_ne.mpr (Nat.ne_of_lt (filterMap_lt hx (if_neg fun e => hk ?_)))))
  exact eq_of_beq (two e).1
theorem swapped_some {ts es : List Expr} {k k2 : Nat} {p p2 : Pos} {l : List Str} (hf : (ts.filterMap fun | .Name id pos => if env.kindOf id == some .local && pos.line == (ts.head?.map (·.pos.line)).getD 0 then some id else none | _ => none) = l)
    (hl : l.length = ts.length) (hn : l.Nodup) (h23 : (ts.length == 2 || ts.length == 3) = true) (hes : es.length = ts.length) (hst : (es.any fun | .Starred .. => true | _ => false) = false) (hk : env.scope.kind = .function)
    (h1 : es.all (foldedForSure 8) = false) (h2 : es.all (constantsAlone 8) = false) : swappedStores [.Tuple ts k p] (.Tuple es k2 p2) env = pure (some l) := by
  unfold swappedStores
  refine (if_neg ?_).trans ?_
  · rw [h23, hes, bne_self_eq_false, show env.blockKind = .function by simp [Env.blockKind, hk, ScopeKind.isAnnotationScope]]; exact Bool.noConfusion
  refine (if_neg ?_).trans ?_
  · exact fun e => Bool.noConfusion (hst.symm.trans e)
  refine (if_neg ?_).trans ?_
  · refine (congrArg (fun (N : List Str) => ¬ (N.length != ts.length || N.eraseDups.length != N.length) = true) hf).mpr ?_
    rw [eraseDups_nodup hn, hl, bne_self_eq_false]; exact Bool.noConfusion
  rw [h1, h2]
  exact congrArg (fun N => pure (some N)) hf
theorem Sl2.sfresh {Z : Addr → Prop} {ss : List (Mode × PV)} {cs : List Value} {D : List Addr} (g : Sl2 h₀ h pub Z ss cs D) : ∀ a ∈ D, h₀.get? a = none := by
  induction g with
  | nil => intro a ha; cases ha
  | pub _ _ ih => exact ih
  | own _ _ hn _ _ ih =>
    intro a ha
    rcases List.mem_cons.mp ha with rfl | ha
    · exact hn
    · exact ih a ha
theorem SlotsGot.len {pub : Addr → Prop} {ss : List (Mode × PV)} {cs : List Value} {D : List Addr} (g : SlotsGot h₀ h pub ss cs D) : ss.length = cs.length := by
  induction g with
  | nil => rfl
  | pub _ _ ih => simp [ih]
  | own _ _ _ _ _ ih => simp [ih]
theorem s_tuple (ih : Snd T hb n) (rm : Room A n) {ts es : List Expr} {k k2 : Nat} {p p2 pos : Pos} {sw : Bool × List Str} {ss : List (Mode × PV)} {vars' : Vars} (F : Frame hb sc env pb nb lent vars val s.heap)
    (h1 : swapNames sc ts es = some sw) (h2 : xSlots T n sc vars es = some ss) (h3 : setBoth sw ss vars = some vars') (E : Value → Shared → Prop) (Q : Flow → Shared → Prop)
    (q : ∀ f s', After hb sc env pb nb lent (Wr sc env vars val) s (.next vars') f s' → Q f s') : wpAny (model prog w) A (exec (.Assign [.Tuple ts k p] (.Tuple es k2 p2) pos) env) Q E s := by
  obtain ⟨nostar, hsl⟩ := slots_nostar h2
  unfold swapNames at h1
  split at h1
  · cases h1
  rename_i hlen
  simp only [Bool.not_eq_true', Bool.not_eq_false, Bool.and_eq_true, beq_iff_eq, decide_eq_true_eq, Bool.not_eq_eq_eq_not, Bool.not_true] at hlen
  have hlen' : es.length = ts.length ∧ ts.length ≤ 5 := by simpa using hlen
  -- the end of both roads
  have fin : ∀ (xs : List Str) (trees : List (Value → Sem Unit)) (ss2 : List (Mode × PV)) (cs2 : List Value) (D : List Addr) (h1 : Heap) (tk1 : Nat), s.heap.StaysIn h1 → setAll xs ss2 vars = some vars' → (∀ x ∈ xs, ownK sc x = true) → StoresAll A env trees xs →
      Sl2 s.heap h1 (fun a => (pb a ∧ nb a) ∧ ¬ Wr sc env vars val a) (fun b => b ∈ D) ss2 cs2 D → D.Nodup → (∀ a ∈ D, h1.get? a ≠ none) → wpAny (model prog w) A (assignInOrder trees cs2) (fun _ => Q .next) E { s with heap := h1, toks := tk1 } := by
    intro xs trees ss2 cs2 D h1 tk1 st hset hown hts g nd hD
    have fr := fun a (ha : a ∈ D) => g.sfresh a ha
    refine store_all (W₀ := Wr sc env vars val) (Z := fun b => b ∈ D) (fun a ha => ⟨none_of_stays F.base (fr a ha), F.pbf a (fr a ha), F.nbf a (fr a ha)⟩) xs trees ss2 cs2 D vars vars' val { s with heap := h1, toks := tk1 } E _ hset hown hts
      (F.narrow st (fun a x y => ⟨x, fun m => y (fr a m)⟩) fun a e => ⟨F.nbf a (none_of_stays st e), fun m => hD a m e⟩) g nd (fun a x => .inl x) fun h2 tk2 val' F2 k2 ex2 hw2 => ?_
    refine q _ _ ⟨h2, tk2, rfl, rfl, val', F2, ⟨fun a o e c => k2 a o (st a o e) (c.imp (fun c x => x.elim c fun m => by rw [fr a m] at e; cases e) id), fun a e => (ex2 a e).elim (fun z => .inl (none_of_stays st z)) fun x => x.elim .inr fun m => .inl (fr a m), fun a x => (hw2 a x).imp id fun m => fr a m⟩⟩
  split at h1
  · rename_i l hl
    obtain ⟨i1, i2, i3, i4, i5⟩ := tsNames_mem (A := A) (env := env) hl
    split at h1
    · rename_i hany
      split at h1
      · rename_i hall
        cases h1
        simp only [setBoth, Bool.false_eq_true, if_false] at h3
        obtain ⟨x, hxl, hxc⟩ := List.any_eq_true.mp hany
        obtain ⟨px, hpx⟩ := i5 x hxl
        have hxk : env.kindOf x ≠ some .local := by
          unfold isCellK at hxc
          split at hxc
          · rename_i e; rw [kindOf_kind F.kok e (by decide)]; decide
          · cases hxc
        refine Assign_Tuple (wpAny_Tuple (ih.slots A sc env vars _ s es ss rm h2 F.reads F.fresh p2 E _ fun cs h1 tk1 D st1 g1 hD => ⟨?_, ?_⟩)) rfl (swapped_none hpx hxk)
        · have := g1.len; rw [← this, hsl, sizeLine_eq]; (first | with_reducible exact Nat.le_trans (by assumption) (by decide) | lia | omega)
        · obtain ⟨g, nd⟩ := g1.sl2 (pl := fun a => (pb a ∧ nb a) ∧ ¬ Wr sc env vars val a) [] fun b o => ⟨o, by simp⟩
          have g := g.congr (Z' := fun b => b ∈ D) (fun a => by simp)
          have hsz : (assignEach ts env).length = cs.toArray.size := by rw [i3, List.size_toArray, ← g1.len, hsl, hlen'.1]
          have stp := stays_push h1 { cls := .type "tuple", data := .seq cs.toArray }
          refine wpAny_assign_Tuple rm.h ⟨_, Heap.get?_push_size _ rfl, rfl, 0, rfl⟩ hsz i4 fun h2 x2 => ?_
          have st2 := stays_trans stp (stays_ext x2)
          exact fin l _ ss cs D h2 tk1 (stays_trans st1 st2) h3 (fun y hy => List.all_eq_true.mp hall y hy) i2 (g.kp (V := fun _ => False) (Kp.of_stays st2) (fun _ _ _ => id) fun _ _ => id) nd fun a ha e => hD a ha (none_of_stays st2 e)
      · cases h1
    · split at h1
      · rename_i hc
        simp only [Bool.and_eq_true, Bool.not_eq_true'] at hc
        split at h1
        · rename_i l' hl'
          split at h1
          · rename_i hap
            cases h1
            simp only [setBoth, if_true] at h3
            obtain ⟨j1, j2, j3⟩ := rowNames_filter (env := env) F.kok hl'
            refine Assign_Tuple_swapped (wpAny_Tuple (ih.slots A sc env vars _ s es ss rm h2 F.reads F.fresh p2 E _ fun cs h1 tk1 D st1 g1 hD => ⟨?_, ?_⟩)) rfl (swapped_some j1 j2 (allApart_nodup hap) hc.1.1 hlen'.1 nostar F.kind hc.1.2 hc.2)
            · have := g1.len; rw [← this, hsl, sizeLine_eq]; (first | with_reducible exact Nat.le_trans (by assumption) (by decide) | lia | omega)
            · obtain ⟨g, nd⟩ := g1.sl2 (pl := fun a => (pb a ∧ nb a) ∧ ¬ Wr sc env vars val a) [] fun b o => ⟨o, by simp⟩
              have g := (g.congr (Z' := fun b => b ∈ D.reverse) (fun a => by simp)).reverse
              have hsz : l'.length = cs.toArray.size := by rw [j2, List.size_toArray, ← g1.len, hsl, hlen'.1]
              have stp := stays_push h1 { cls := .type "tuple", data := .seq cs.toArray }
              rw [hsz]
              refine wpAny_unpackItems_tuple rm.h ⟨_, Heap.get?_push_size _ rfl, rfl, 0, rfl⟩ fun h2 x2 => ?_
              have st2 := stays_trans stp (stays_ext x2)
              have hts : ∀ m : List Str, StoresAll A env (m.map fun n => bindName env n) m := fun m => by
                induction m with
                | nil => exact .nil
                | cons y m ihm => exact .cons (fun v s E Q q => wpAny_bindName q) ihm
              exact fin l'.reverse _ ss.reverse cs.reverse D.reverse h2 tk1 (stays_trans st1 st2) h3 (fun y hy => by unfold ownK; rw [j3 y (List.mem_reverse.mp hy)]) (hts _)
                (g.kp (V := fun _ => False) (Kp.of_stays st2) (fun _ _ _ => id) fun _ _ => id) (by unfold List.Nodup; rw [List.pairwise_reverse]; exact nd.imp Ne.symm) fun a ha e => hD a (List.mem_reverse.mp ha) (none_of_stays st2 e)
          · cases h1
        · cases h1
      · cases h1
  · cases h1
theorem aug_some {op : Operator} {a b v : PV} (e : evalAug op a b = some v) : ∃ i j, a = .int i ∧ b = .int j ∧ op = .Add ∧ v = .int (i + j) := by
  cases op with
  | Add =>
    obtain ⟨i, hi, e⟩ := bnd (show (intP a).bind (fun i => (intP b).bind fun j => some (PV.int (i + j))) = some v from e)
    obtain ⟨j, hj, e⟩ := bnd e
    exact ⟨i, j, intP_eq hi, intP_eq hj, rfl, (Option.some.inj e).symm⟩
  | _ => exact noS e
theorem s_aug (ih : Snd T hb n) (rm : Room A n) {x : Str} {op : Operator} {e : Expr} {px pos : Pos} {o a : Bool × PV} {v : PV} (F : Frame hb sc env pb nb lent vars val s.heap)
    (hx : ownK sc x = true) (h1 : xE T n sc vars (.Name x px) = some o) (h2 : xE T n sc vars e = some a) (h3 : evalAug op o.2 a.2 = some v) (E : Value → Shared → Prop) (Q : Flow → Shared → Prop)
    (q : ∀ f s', After hb sc env pb nb lent (Wr sc env vars val) s (.next (setV x (.P, v) vars)) f s' → Q f s') : wpAny (model prog w) A (exec (.AugAssign (.Name x px) op e pos) env) Q E s := by
  cases n with
  | zero => exact noS h1
  | succ n =>
  obtain ⟨ho, h1⟩ := unlessIf (show (bif oddName x then none else readP (kindIn x sc.names) (look x vars)) = some o from h1)
  obtain ⟨md, hl, hk, hp⟩ := readP_kind h1
  obtain ⟨hd, hc⟩ := oddName_no (by rw [ho]; exact nofun)
  obtain ⟨cv, r1, _, ld⟩ := F.reads.load (M := model prog w) (A := A) hl hk hc
  obtain ⟨i, j, e1, e2, rfl, h5⟩ := aug_some h3
  refine wpAny_AugAssign_Name (ld E _ ?_)
  refine ih.e A sc env vars _ s e a.1 a.2 rm h2 F.reads F.fresh E _ fun c1 h1' tk1 st1 r2 => ?_
  rw [e1] at r1
  have r2' := r2 _ .T
  rw [e2] at r2'
  obtain ⟨t, rfl⟩ := r1.int_inv; obtain ⟨u, rfl⟩ := r2'.int_inv
  subst h5
  refine PySem.AutoIntOps.iadd_0 ?_
  have F2 := F.stays st1
  exact F2.storeP (s := { s with heap := h1', toks := tk1 + 1 }) (pi := fun _ => False) hx (.int _ _) (fun _ f => f.elim) fun h3 tk3 F3 adv3 _ => q _ _ ⟨h3, tk3, rfl, rfl, _, F3, (Adv.stays st1).trans adv3⟩
end
end Mine
set_option backward.match.sparseCases false
namespace Mine
open PySem PySem.Calls PyProof.Rows PySem.W PySem.SeqAt
section
variable {T : Tab} {hb h h₀ h' : Heap} {n : Nat} {A : Around} {sc : Scope} {env : Env} {vars : Vars} {pub pb nb : Addr → Prop} {lent : Addr} {val : Str → Option Value} {s : Shared} {p : Bool} {v : PV}
theorem cellsFrom_append : ∀ (names : List (Str × NameKind)) (n : Nat) (a b : List (Str × Addr)), cellsFrom n names (a ++ b) = cellsFrom n names a ++ b
  | [], _, _, _ => rfl
  | (x, k) :: r, n, a, b => by
    unfold cellsFrom
    split
    · exact cellsFrom_append r (n + 1) ((x, n) :: a) b
    · exact cellsFrom_append r n a b
theorem cellsFrom_kind : ∀ (names : List (Str × NameKind)) (n : Nat) (acc : List (Str × Addr)) (x : Str) (c : Addr), (x, c) ∈ cellsFrom n names acc → (x, c) ∈ acc ∨ (x, NameKind.cell) ∈ names
  | [], _, _, _, _, h => .inl h
  | (y, k) :: r, n, acc, x, c, h => by
    unfold cellsFrom at h
    split at h
    · rename_i hk
      have hk' : k = .cell := by simpa using hk
      rcases cellsFrom_kind r (n + 1) _ x c h with h | h
      · rcases List.mem_cons.mp h with e | h
        · cases e; subst hk'; exact .inr (.head _)
        · exact .inl h
      · exact .inr (.tail _ h)
    · exact (cellsFrom_kind r n acc x c h).imp id (.tail _)
theorem wpAny_newFunctionEnv_comp {M : Model} {E : Value → Shared → Prop} {scope : Scope} {globals : Addr} {closure : List (Str × Addr)} {qual : Str} {outer : Env} {Q : Env → Shared → Prop}
    (hQ : Q { scope, locals := s.heap.objs.size, globals, cells := cellsFrom (s.heap.objs.size + 1) scope.names closure, qual, func := none, code := outer.code, frame := outer.frame, builtins := outer.builtins }
      { s with heap := pushCells (s.heap.push { cls := .type "dict", data := .dict #[] }) scope.names }) :
    wpAny M A (newFunctionEnv scope globals closure [] qual none .none (some outer)) Q E s := by
  simp only [newFunctionEnv, Option.isSome_some, if_true]
  refine wpAny_bind (wpAny_alloc ?_)
  refine wpAny_bind (wpAny_layCells _ (fun name kind cells => by cases hkc : kind == NameKind.cell <;> simp [hkc]) _ _ _ _ ?_)
  rw [show ({ s with heap := s.heap.push { cls := .type "dict", data := .dict #[] } } : Shared).heap.objs.size = s.heap.objs.size + 1 from Heap.size_push ..]
  refine wpAny_bind ?_
  rw [List.forIn_nil]
  exact wpAny_pure (wpAny_pure hQ)
noncomputable def closeAcc (env : Env) : List (Str × NameKind) → List (Str × Addr) → List (Str × Addr)
  | [], acc => acc
  | (x, k) :: r, acc => if k == .free then closeAcc env r (match env.cells.lookup x with | some c => (x, c) :: acc | none => acc) else closeAcc env r acc
theorem closureFor_pure {scope : Scope} (hc : ∀ x, (x, NameKind.free) ∈ scope.names → ∃ c, env.cells.lookup x = some c) : closureFor scope env = pure (closeAcc env scope.names []) := by
  have key : ∀ (l : List (Str × NameKind)) (acc : List (Str × Addr)), (∀ x, (x, NameKind.free) ∈ l → ∃ c, env.cells.lookup x = some c) →
      (forIn l acc fun (x : Str × NameKind) cs => (match x with | (name, kind) => if kind == NameKind.free then do let c ← cellOf env name; pure (ForInStep.yield ((name, c) :: cs)) else pure (ForInStep.yield cs) : Sem (ForInStep (List (Str × Addr))))) = pure (closeAcc env l acc) := by
    intro l
    induction l with
    | nil => intro acc _; rfl
    | cons a r ih =>
      intro acc hl
      obtain ⟨x, k⟩ := a
      rw [List.forIn_cons]
      unfold closeAcc
      by_cases hk : (k == NameKind.free) = true
      · have hk' : k = .free := by simpa using hk
        subst hk'
        obtain ⟨c, hc'⟩ := hl x (.head _)
        simp only [beq_self_eq_true, if_true, cellOf, hc', pure_bind]
        exact ih _ fun y hy => hl y (.tail _ hy)
      · simp only [hk]
        rw [if_neg (by simp), if_neg (by simp), pure_bind]
        exact ih _ fun y hy => hl y (.tail _ hy)
  have e : closureFor scope env = ((forIn scope.names [] fun (x : Str × NameKind) cs => (match x with | (name, kind) => if kind == NameKind.free then do let c ← cellOf env name; pure (ForInStep.yield ((name, c) :: cs)) else pure (ForInStep.yield cs) : Sem (ForInStep (List (Str × Addr))))) >>= fun r => pure r) := by
    unfold closureFor
    rfl
  rw [e, key scope.names [] hc, pure_bind]
theorem closeAcc_mem : ∀ (l : List (Str × NameKind)) (acc : List (Str × Addr)) (x : Str) (c : Addr), (x, c) ∈ closeAcc env l acc → (x, c) ∈ acc ∨ (env.cells.lookup x = some c ∧ (x, NameKind.free) ∈ l)
  | [], _, _, _, h => .inl h
  | (y, k) :: r, acc, x, c, h => by
    unfold closeAcc at h
    split at h
    · rename_i hk
      have hk' : k = .free := by simpa using hk
      rcases closeAcc_mem r _ x c h with h | h
      · split at h
        · rename_i c' hc'
          rcases List.mem_cons.mp h with e | h
          · cases e; subst hk'; exact .inr ⟨hc', .head _⟩
          · exact .inl h
        · exact .inl h
      · exact .inr ⟨h.1, .tail _ h.2⟩
    · exact (closeAcc_mem r acc x c h).imp id fun h => ⟨h.1, .tail _ h.2⟩
theorem closeAcc_keep : ∀ (l : List (Str × NameKind)) (acc : List (Str × Addr)) (x : Str) (c : Addr), (x, c) ∈ acc → (x, c) ∈ closeAcc env l acc
  | [], _, _, _, h => h
  | (y, k) :: r, acc, x, c, h => by
    unfold closeAcc
    split
    · refine closeAcc_keep r _ x c ?_
      split
      · exact .tail _ h
      · exact h
    · exact closeAcc_keep r acc x c h
theorem closeAcc_has : ∀ (l : List (Str × NameKind)) (acc : List (Str × Addr)) (x : Str) (c : Addr), (x, NameKind.free) ∈ l → env.cells.lookup x = some c → (x, c) ∈ closeAcc env l acc
  | (y, k) :: r, acc, x, c, h, hc => by
    unfold closeAcc
    rcases List.mem_cons.mp h with e | h
    · cases e
      simp only [beq_self_eq_true, if_true, hc]
      exact closeAcc_keep r _ _ c (.head _)
    · split
      · exact closeAcc_has r _ x c h hc
      · exact closeAcc_has r acc x c h hc
theorem lookup_of_mem {l : List (Str × Addr)} {x : Str} {c : Addr} (h : (x, c) ∈ l) (hu : ∀ c', (x, c') ∈ l → c' = c) : l.lookup x = some c := by
  cases q : l.lookup x with
  | some c' => rw [hu c' (mem_of_lookup q)]
  | none =>
    exfalso
    induction l with
    | nil => cases h
    | cons a r ih =>
      rw [List.lookup_cons] at q
      rcases List.mem_cons.mp h with e | h
      · subst e; simp at q
      · split at q
        · cases q
        · exact ih h (fun c' h' => hu c' (.tail _ h')) q
theorem lookup_find {α : Type} (x : Str) : ∀ l : List (Str × α), l.lookup x = (l.find? fun a => x == a.1).map (·.2)
  | [] => rfl
  | (y, a) :: r => by
    rw [List.lookup_cons, List.find?_cons]
    by_cases h : (x == y) = true
    · simp [h]
    · simp only [Bool.not_eq_true] at h; simp [h, lookup_find x r]
theorem lookup_map {α : Type} (x : Str) (f : Str × α → Str × α) (hf : ∀ a, (f a).1 = a.1) : ∀ l : List (Str × α), (l.map f).lookup x = (l.find? fun a => x == a.1).map fun a => (f a).2
  | [] => rfl
  | a :: r => by
    rw [List.map_cons, List.find?_cons]
    have : f a = ((f a).1, (f a).2) := rfl
    rw [this, hf, List.lookup_cons]
    by_cases h : (x == a.1) = true
    · simp [h]
    · simp only [Bool.not_eq_true] at h; simp [h, lookup_map x f hf r]
theorem lookup_relabel {names : List (Str × NameKind)} {x : Str} {k : NameKind} (h : names.lookup x = some k) :
    (names.map fun (n, k) => if (k == NameKind.free && env.scope.kind == .function && env.kindOf n == some .cell) then (n, NameKind.cell) else (n, k)).lookup x = some k ∨ (k = .free ∧
      (names.map fun (n, k) => if (k == NameKind.free && env.scope.kind == .function && env.kindOf n == some .cell) then (n, NameKind.cell) else (n, k)).lookup x = some .cell) := by
  rw [lookup_map x _ (fun a => by dsimp only; split <;> rfl)]
  rw [lookup_find] at h
  cases q : names.find? fun a => x == a.1 with
  | none => rw [q] at h; cases h
  | some a =>
    obtain ⟨y, k'⟩ := a
    rw [q] at h; cases h
    simp only [Option.map_some]
    split
    · rename_i hc
      simp only [Bool.and_eq_true] at hc
      exact .inr ⟨by simpa using hc.1.1, rfl⟩
    · exact .inl rfl
theorem look_within {x : Str} {names : List (Str × NameKind)} : ∀ {vars : Vars}, look x (within names vars) = if kindIn x names = some .free then (look x vars).map fun sl => (if ownM sl.1 then .B else sl.1, sl.2) else none
  | [] => by unfold within look; simp
  | (y, md, u) :: r => by
    have ih := @look_within x names r
    unfold within
    split
    · rename_i hk
      simp only [look]
      by_cases hyx : y = x
      · subst hyx; simp [strEq_self, hk]
      · rw [strEq_ne hyx]; simpa using ih
    · rename_i hk
      rw [ih]
      by_cases hyx : y = x
      · subst hyx
        rw [if_neg hk, if_neg hk]
      · simp only [look, strEq_ne hyx]
end
end Mine
namespace Mine
open PySem PySem.Calls PyProof.Rows PySem.W PySem.SeqAt
section
variable {T : Tab} {hb h h₀ h' : Heap} {n : Nat} {A : Around} {sc : Scope} {env : Env} {vars : Vars} {pub : Pubs} {pb nb : Addr → Prop} {lent : Addr} {val : Str → Option Value} {s : Shared} {p : Bool} {v : PV}
theorem nodup_key {α : Type} {l : List (Str × α)} (hn : (l.map (·.1)).Nodup) {x : Str} {a b : α} (h1 : (x, a) ∈ l) (h2 : (x, b) ∈ l) : a = b := by
  induction l with
  | nil => cases h1
  | cons y r ih =>
    simp only [List.map_cons, List.nodup_cons] at hn
    rcases List.mem_cons.mp h1 with e | k1 <;> rcases List.mem_cons.mp h2 with e' | k2
    · rw [← e] at e'; exact (Prod.mk.inj e').2.symm
    · subst e; exact (hn.1 (List.mem_map.mpr ⟨_, k2, rfl⟩)).elim
    · subst e'; exact (hn.1 (List.mem_map.mpr ⟨_, k1, rfl⟩)).elim
    · exact ih hn.2 k1 k2
theorem lookup_mem' {α : Type} {l : List (Str × α)} (hn : (l.map (·.1)).Nodup) {x : Str} {a : α} (h : (x, a) ∈ l) : l.lookup x = some a := by
  cases q : l.lookup x with
  | some b => rw [nodup_key hn h (mem_of_lookup q)]
  | none =>
    exfalso
    induction l with
    | nil => cases h
    | cons y r ih =>
      rw [List.lookup_cons] at q
      rcases List.mem_cons.mp h with e | h
      · subst e; simp at q
      · split at q
        · cases q
        · simp only [List.map_cons, List.nodup_cons] at hn
          exact ih hn.2 h q
theorem compOk_parts {scope : Scope} (h : compOk sc scope = true) : scope.kind = .function ∧ (scope.names.map (·.1)).Nodup ∧ ∀ x, (x, NameKind.free) ∈ scope.names → x ≠ "__classdict__" ∧ (kindIn x sc.names = some .cell ∨ kindIn x sc.names = some .free) := by
  unfold compOk at h
  simp only [Bool.and_eq_true] at h
  refine ⟨by simpa using h.1.1, allApart_nodup h.1.2, fun x hx => ?_⟩
  have := List.all_eq_true.mp h.2 _ hx
  simp only [Bool.and_eq_true, Bool.not_eq_true'] at this
  refine ⟨fun e => ?_, ?_⟩
  · rw [strEq_iff.mpr e] at this; cases this.1
  · have t := this.2
    split at t
    · rename_i e; exact .inl e
    · rename_i e; exact .inr e
    · cases t
noncomputable def compEnv' (scope : Scope) (env : Env) (L : Addr) : Env :=
  { scope := relabel scope env, locals := L, globals := env.globals, cells := cellsFrom (L + 1) scope.names (closeAcc env scope.names []), qual := env.qual, func := none, code := env.code, frame := env.frame, builtins := env.builtins }
theorem comp_frame {scope : Scope} {h₃ : Heap} {D lent : Addr} (R : Reads hb sc env pub vars h) (F : ∀ b, h.get? b = none → pub.p b) (st : h.StaysIn h₃) (hD : h.get? D = none) (hD3 : h₃.get? D ≠ none) (hok : compOk sc scope = true) :
    (∃ val, Frame hb scope (compEnv' scope env h₃.objs.size) pub.p (fun a => a ≠ D) lent (within scope.names vars) val (pushCells (h₃.push { cls := .type "dict", data := .dict #[] }) scope.names)) ∧ NoOwn (within scope.names vars) ∧
    h₃.StaysIn (pushCells (h₃.push { cls := .type "dict", data := .dict #[] }) scope.names) ∧ ∀ a, Wc scope (compEnv' scope env h₃.objs.size) a → h₃.get? a = none := by
  obtain ⟨hkind, hnd, hfree⟩ := compOk_parts hok
  have st4 : h₃.StaysIn (pushCells (h₃.push { cls := .type "dict", data := .dict #[] }) scope.names) := fun b o e => pushCells_keeps _ _ b o (Heap.get?_push_of_some _ e)
  have ok := cellsFrom_ok scope.names (h₃.push { cls := .type "dict", data := .dict #[] }) (h₃.objs.size + 1) [] ⟨fun _ _ hm => (nomatch hm), List.Pairwise.nil⟩ (by rw [Heap.size_push]; exact Nat.le_refl _)
  rw [Heap.size_push] at ok
  have hcells : (compEnv' scope env h₃.objs.size).cells = cellsFrom (h₃.objs.size + 1) scope.names [] ++ closeAcc env scope.names [] := by
    show cellsFrom (h₃.objs.size + 1) scope.names ([] ++ closeAcc env scope.names []) = _
    rw [cellsFrom_append]
  have mem_kind : ∀ {x k}, kindIn x scope.names = some k → (x, k) ∈ scope.names := fun e => mem_of_lookup (by rw [← kindIn_lookup]; exact e)
  have own : ∀ x, kindIn x scope.names = some .cell → ∃ c, (compEnv' scope env h₃.objs.size).cells.lookup x = some c ∧ (x, c) ∈ cellsFrom (h₃.objs.size + 1) scope.names [] := fun x hx => by
    have hs := cellsFrom_some (x := x) scope.names (h₃.objs.size + 1) [] (.inl (by rw [← kindIn_lookup]; exact hx))
    obtain ⟨c, hc⟩ := Option.isSome_iff_exists.mp hs
    exact ⟨c, by rw [hcells, List.lookup_append, hc]; rfl, mem_of_lookup hc⟩
  have fre : ∀ x, kindIn x scope.names = some .free → ∃ c, (compEnv' scope env h₃.objs.size).cells.lookup x = some c ∧ env.cells.lookup x = some c ∧ ∃ u, h.IsCell c u := fun x hx => by
    have hm := mem_kind hx
    obtain ⟨c, u, hc, hi⟩ := R.cel x (hfree x hm).2
    refine ⟨c, ?_, hc, u, hi⟩
    have hno : (cellsFrom (h₃.objs.size + 1) scope.names []).lookup x = none := by
      cases q : (cellsFrom (h₃.objs.size + 1) scope.names []).lookup x with
      | none => rfl
      | some c' =>
        rcases cellsFrom_kind _ _ _ _ _ (mem_of_lookup q) with e | e
        · cases e
        · have := nodup_key hnd hm e; cases this
    rw [hcells, List.lookup_append, hno]
    show Option.or none _ = _
    rw [Option.none_or]
    refine lookup_of_mem (closeAcc_has _ _ _ _ hm hc) fun c' h' => ?_
    rcases closeAcc_mem _ _ _ _ h' with e | e
    · cases e
    · have := e.1; rw [hc] at this; exact (Option.some.inj this).symm
  have hfr : ∀ a, h₃.objs.size ≤ a → h₃.get? a = none := fun a ha => Heap.get?_none_of_le ha
  have wcf : ∀ a, Wc scope (compEnv' scope env h₃.objs.size) a → h₃.get? a = none := by
    rintro a (rfl | ⟨x, hx, hc⟩)
    · exact hfr _ (Nat.le_refl _)
    · obtain ⟨c, h1, h2⟩ := own x hx
      rw [hc] at h1; cases h1
      exact hfr _ (Nat.le_of_succ_le (ok.empty x _ h2).2)
  have noOwn : NoOwn (within scope.names vars) := fun x md v hx => by
    rw [look_within] at hx
    split at hx
    · cases q : look x vars with
      | none => rw [q] at hx; cases hx
      | some sl =>
        rw [q] at hx; cases hx
        split
        · rfl
        · rename_i e; simpa using e
    · cases hx
  have wrf : ∀ val a, Wr scope (compEnv' scope env h₃.objs.size) (within scope.names vars) val a → h₃.get? a = none := by
    rintro val a (e | e | ⟨x, md, v, hx, hm, _⟩)
    · exact wcf a (.inl e)
    · exact wcf a (.inr e)
    · rw [noOwn x md v hx] at hm; cases hm
  have wih : ∀ {x md v}, look x (within scope.names vars) = some (md, v) → kindIn x scope.names = some .free ∧ ∃ md', look x vars = some (md', v) ∧ (md = .P → md' = .P) ∧ (md = .P ∨ md = .B) := fun {x md v} hx => by
    rw [look_within] at hx
    split at hx
    · rename_i hk
      cases q : look x vars with
      | none => rw [q] at hx; cases hx
      | some sl =>
        obtain ⟨md', u⟩ := sl
        rw [q] at hx; cases hx
        refine ⟨hk, md', rfl, fun e => ?_, ?_⟩
        · dsimp only at e ⊢
          split at e
          · cases e
          · exact e
        · dsimp only
          cases md' <;> simp [ownM]
    · cases hx
  obtain ⟨m, hn, hvars⟩ := R.vars
  refine ⟨⟨fun x => (env.cells.lookup x).bind fun c => match h.get? c with | some o => (match o.data with | .cell u => u | _ => none) | none => none, ?_⟩, noOwn, st4, wcf⟩
  have valOf : ∀ {x : Str} {c : Addr} {u : Option Value}, env.cells.lookup x = some c → h.IsCell c u → ((env.cells.lookup x).bind fun c => match h.get? c with | some o => (match o.data with | .cell u => u | _ => none) | none => none) = u := fun {x c u} h1 h2 => by
    obtain ⟨o, ho, hd⟩ := h2
    rw [h1]; simp [ho, hd]
  exact {
    base := stays_trans (stays_trans R.base st) st4
    glob := R.glob
    blt := R.blt
    kind := hkind
    kok := fun x k hk => by
      rw [kindIn_lookup] at hk
      exact lookup_relabel hk
    ns := ⟨_, (Heap.Ns.new h₃ (.type "dict")).keeps (pushCells_keeps _ _), fun x cv hx hl _ => by
      cases q : look x (within scope.names vars) with
      | none => rw [q] at hl; cases hl
      | some sl =>
        obtain ⟨md, v⟩ := sl
        have := (wih q).1
        rw [hx] at this; cases this⟩
    cel := fun x hx => by
      rcases hx with hx | hx
      · obtain ⟨c, h1, h2⟩ := own x hx
        have hc := ok.empty x c h2
        refine ⟨c, none, h1, hc.1, ?_, fun cv hl _ => ?_⟩
        · rintro rfl; exact hD3 (hfr _ (Nat.le_of_succ_le hc.2))
        · cases q : look x (within scope.names vars) with
          | none => rw [q] at hl; cases hl
          | some sl =>
            obtain ⟨md, v⟩ := sl
            have := (wih q).1
            rw [hx] at this; cases this
      · obtain ⟨c, h1, h2, u, h3⟩ := fre x hx
        refine ⟨c, u, h1, (h3.keeps st).keeps st4, ?_, fun cv _ hv => ?_⟩
        · rintro rfl; exact (isCell_mut h3).some hD
        · rw [valOf h2 h3] at hv; exact hv
    apart := fun x y c hx hy h1 h2 => by
      obtain ⟨c', g1, g2⟩ := own x hx
      rw [h1] at g1; cases g1
      rcases hy with hy | hy
      · obtain ⟨c'', k1, k2⟩ := own y hy
        rw [h2] at k1; cases k1
        exact name_of_addr ok.apart g2 k2
      · obtain ⟨c'', k1, _, u, k2⟩ := fre y hy
        rw [h2] at k1; cases k1
        exact absurd (hfr _ (Nat.le_of_succ_le (ok.empty x c g2).2)) (isCell_mut (k2.keeps st)).some
    slots := fun x md v hx => by
      obtain ⟨hk, md', hl, hp, hmd⟩ := wih hx
      obtain ⟨cv, h1, h2, _, h4⟩ := hvars x md' v hl
      obtain ⟨c, h5, h6⟩ := h4 (hfree x (mem_kind hk)).2
      refine ⟨cv, valOf h5 h6, ?_⟩
      have here : ∀ a, h.get? a ≠ none → a ≠ D ∧ ¬ Wr scope (compEnv' scope env h₃.objs.size) (within scope.names vars) (fun x => (env.cells.lookup x).bind fun c => match h.get? c with | some o => (match o.data with | .cell u => u | _ => none) | none => none) a := fun a e => ⟨fun q => e (q ▸ hD), fun q => e (none_of_stays st (wrf _ a q))⟩
      rcases hmd with rfl | rfl
      · exact (h2 (hp rfl)).exist.stays (stays_trans st st4) fun a o => ⟨⟨o.1, (here a o.2).1⟩, (here a o.2).2⟩
      · exact h1.exist.stays (stays_trans st st4) fun a o => here a o.2
    own1 := fun x y mx vx my vy a hx hm => by rw [noOwn x mx vx hx] at hm; cases hm
    sepL := fun x md v hx hm => by rw [noOwn x md v hx] at hm; cases hm
    nbL := fun e => hD3 (hfr _ (by rw [← e]; exact Nat.le_refl _))
    old := fun a e => none_of_stays R.base (none_of_stays st (wrf _ a e))
    pbf := fun a e => F a (none_of_stays (stays_trans st st4) e)
    nbf := fun a e q => hD3 (none_of_stays st4 (q ▸ e)) }
end
end Mine
namespace Mine
open PySem PySem.Calls PyProof.Rows PySem.W PySem.SeqAt
section
variable {T : Tab} {hb h h₀ h' : Heap} {n : Nat} {A : Around} {sc : Scope} {env : Env} {vars : Vars} {pub : Pubs} {pb nb : Addr → Prop} {lent : Addr} {val : Str → Option Value} {s : Shared} {p : Bool} {v : PV}
theorem Frame.wc_mut (F : Frame hb sc env pb nb lent vars val h) {a : Addr} (x : Wc sc env a) : Mut h a := F.wr_mut (.of_wc x)
theorem NoOwn.wr (no : NoOwn vars) {a : Addr} (x : Wr sc env vars val a) : Wc sc env a := by
  rcases x with e | e | ⟨x, md, v, hx, hm, _⟩
  · exact .inl e
  · exact .inr e
  · rw [no x md v hx] at hm; cases hm
theorem list_notTup {a : Addr} {ys : Array Value} (hl : h.PlainList a ys) : ∀ o, h.get? a = some o → ¬ isTupObj o := fun o e t => by
  obtain ⟨m, hl⟩ := hl
  rw [hl] at e; cases e
  have := t.1
  simp at this
theorem wpAny_noStart {gens : List Comprehension} {elt : Expr} {scope : Scope} {pos : Pos} {depth : Nat} {target iter : Expr} {ifs : List Expr} {it acc : Value} {R : Result → Shared → Prop} (hg : gens[depth]? = some ⟨target, iter, ifs, 0⟩)
    (h0 : codeAny (model prog w) A (.compLoop (.ListComp elt gens scope pos) depth it acc env) R s)
    (h : wpAny (model prog w) A (pyIter it) (fun it' s' => codeAny (model prog w) A (.compLoop (.ListComp elt gens scope pos) depth it' acc env) R s')
      (notedBy (model prog w) A env fun x s' => R (.error x) s') s) :
    codeAny (model prog w) A (.compStart (.ListComp elt gens scope pos) depth it acc env) R s := by
  refine codeAny_of_tree ?_
  show wpAny _ _ ((compStart (.ListComp elt gens scope pos) depth it acc env).onRaise (fun x => do noteFrame x env; standAt theWindowsPlace)) _ _ s
  refine wpAny_notedAt ?_
  unfold compStart
  have hcl : (clausesOf (.ListComp elt gens scope pos))[depth]? = some ⟨target, iter, ifs, 0⟩ := hg
  rw [hcl]
  show wpAny _ _ (ask >>= _) _ _ s
  refine wpAny_bind (wpAny_askSetting (wpAny_ite ?_))
  split
  · first
      | exact wpAny_bind (wpAny_pure (wpAny_pure (And.intro rfl h0)))
      | exact wpAny_pure (And.intro rfl h0)
  · refine wpAny_bind (wpAny_rule ?_)
    show wpAny _ _ (standAt iter.pos >>= _) _ _ s
    exact wpAny_bind (wpAny_standAt (wpAny_bind (wpAny_mono h (fun it' s' h' => wpAny_pure (And.intro rfl h')) fun _ _ x => x)))
theorem compTurn_at {elt : Expr} {gens : List Comprehension} {scope : Scope} {pos : Pos} {depth : Nat} {target iter : Expr} {ifs : List Expr} {it acc : Value} (hg : gens[depth]? = some ⟨target, iter, ifs, 0⟩) :
    compTurn (.ListComp elt gens scope pos) depth it acc env = (standAt iter.pos >>= fun _ => pyNext it >>= fun r => match r with
      | none => pure (.done .next)
      | some v => letOwnedTupleGo target it v >>= fun _ => assign target env v >>= fun _ =>
        (forIn ifs true fun c r => if r = true then do let ok ← isTrue c env (eval c env); pure (ForInStep.yield ok) else pure (ForInStep.yield r)) >>= fun ok =>
          if ok = true then emitTree (.ListComp elt gens scope pos) elt gens depth acc env (again (.compLoop (.ListComp elt gens scope pos) depth it acc env))
          else again (.compLoop (.ListComp elt gens scope pos) depth it acc env)) := by
  unfold compTurn emitTree
  simp only [hg, show ((0 : Int) != 0) = false from rfl, Bool.false_eq_true, if_false]
  rfl
theorem Grown.trans {D : Addr} {ys zs : Array Value} {W₀ W₁ : Addr → Prop} {out1 out2 : List PV} {vars2 : Vars} {h1 : Heap} {tk1 : Nat} {s' : Shared}
    (ra : VAll h1 (fun a => (pb a ∧ nb a) ∧ ¬ Wc sc env a) out1 zs.toList) (kp : Kp W₀ s.heap h1) (ex : ∀ a, h1.get? a = none → s.heap.get? a = none ∨ W₀ a)
    (hW₁ : ∀ a, W₁ a → W₀ a) (hnot : ∀ a, Cont h1 a → (pb a ∧ nb a) ∧ ¬ Wc sc env a → ¬ W₁ a)
    (g : Grown hb sc env pb nb lent D (ys ++ zs) W₁ { s with heap := h1, toks := tk1 } out2 vars2 s') : Grown hb sc env pb nb lent D ys W₀ s (out1 ++ out2) vars2 s' := by
  obtain ⟨h2, tk2, val2, zs2, rfl, F, no, hl, va, k2, ex2⟩ := g
  refine ⟨h2, tk2, val2, zs ++ zs2, rfl, F, no, by rw [← Array.append_assoc]; exact hl, ?_, kp.trans (k2.mono hW₁), fun a e => (ex2 a e).elim (ex a) fun w => .inr (hW₁ a w)⟩
  rw [Array.toList_append]
  exact (ra.here.kp k2 fun a o => ⟨hnot a o.2 o.1, o.1⟩).append va
theorem step_elt (ih : Snd T hb n) : EltOk T hb (n + 1) := by
  intro A sc env pb nb lent vars val s elt gens scope0 pos0 depth rest D ys out vars' rm hv hg F no hl hD hsz hDb k E Q q
  match rest, hg with
  | [], hg =>
    obtain ⟨a, ha, hv⟩ := bnd (show (xE T n sc vars elt).bind (fun v => (pubP v).bind fun u => some ([u], vars)) = some (out, vars') from hv)
    obtain ⟨u, hu, hv⟩ := bnd hv
    cases hv
    unfold pubP at hu
    split at hu
    · rename_i hp
      cases hu
      have hno : gens[depth + 1]? = none := List.getElem?_eq_none (List.drop_eq_nil_iff.mp hg)
      unfold emitTree
      rw [hno]
      refine wpAny_bind (wpAny_bind (ih.e A sc env vars _ s elt a.1 a.2 rm.pred ha F.reads F.fresh E _ fun cv h1 tk1 st1 r1 => ?_))
      have hl1 : h1.PlainList D ys := hl.at fun o e => st1 D o e
      refine wpAny_bind (wpAny_list_append_plain (s := { s with heap := h1, toks := tk1 }) (hsz := by rw [sizeLine_eq]; simp at hsz; (first | with_reducible exact Nat.le_trans (by assumption) (by decide) | lia | omega)) hl1 fun h2 hl2 hs2 => wpAny_pure ?_)
      have r1' : VRep h1 (fun a => (pb a ∧ nb a) ∧ ¬ Wr sc env vars val a) a.2 cv := r1 _ (.inr (.inr ⟨hp, rfl⟩))
      have hDe : h1.get? D ≠ none := by obtain ⟨m, e⟩ := hl1; rw [e]; simp
      have hDe2 : h2.get? D ≠ none := by obtain ⟨m, e⟩ := hl2; rw [e]; simp
      have hDm : Mut h1 D := by obtain ⟨m, e⟩ := hl1; exact ⟨_, e, .inl ⟨_, _, rfl⟩⟩
      have kp2 := kp_sameBut hs2 hDm (list_notTup hl1)
      have ex2 := sameBut_ex hs2 hDe2
      refine q _ ⟨h2, tk1, val, #[cv], rfl, ?_, no, by simpa using hl2, ?_, ?_, fun a e => .inl (none_of_stays st1 (ex2 a e))⟩
      · refine (F.stays st1).move kp2 (fun a e => .inr (by subst e; exact hD)) ex2 (fun a e => by rw [e]; exact hDb) (fun _ x _ => x) fun a e => F.nbf a (none_of_stays st1 (ex2 a e))
      · exact .cons (r1'.kp kp2 fun b o => ⟨fun e => hD (e ▸ o.1.2), o.1, fun x => o.2 (.of_wc x)⟩) .nil
      · exact (Kp.of_stays st1).trans (kp2.mono fun _ => .inr)
    · cases hu
  | _ :: _ :: _, _ => exact noS hv
  | [⟨t, it, ifs, k0⟩], hg =>
    obtain ⟨hz, hv⟩ := onlyIf (show (bif isZ k0 then zElt1 (zRec T n) sc vars t it ifs elt else none) = some (out, vars') from hv)
    obtain rfl := isZ_eq hz
    obtain ⟨its, hi, hv⟩ := bnd (show (xIter T n sc vars (isTupT t) it).bind (fun its => xComp T n sc vars t ifs [] elt its) = some (out, vars') from hv)
    have hsome : gens[depth + 1]? = some ⟨t, it, ifs, 0⟩ ∧ gens.drop (depth + 2) = [] := by
      have h1 : (gens.drop (depth + 1))[0]? = some ⟨t, it, ifs, 0⟩ := by rw [hg]; rfl
      rw [List.getElem?_drop] at h1
      refine ⟨h1, ?_⟩
      have h2 : (gens.drop (depth + 1)).drop 1 = [] := by rw [hg]; rfl
      rwa [List.drop_drop] at h2
    have hset : ∀ x, foldedSetIterable it env x = pure x := folded_of (by
      rintro elts k pos rfl
      cases n with
      | zero => exact noS hi
      | succ n => cases n <;> exact noS hi)
    unfold emitTree
    rw [hsome.1]
    simp only [show ((0 : Int) != 0) = false from rfl, Bool.false_eq_true, if_false]
    have inS : ∀ a, Wc sc env a → s.heap.get? a ≠ none := fun a e => (F.wc_mut e).some
    have hDe : s.heap.get? D ≠ none := by obtain ⟨m, e⟩ := hl; rw [e]; simp
    refine wpAny_bind (wpAny_mono (ih.iter A sc env vars _ s t (isTupT t) it its rm.pred hi id F.reads F.fresh E
      (fun itv s2 => wpAny (model prog w) A (runOwn (.compStart (.ListComp elt gens scope0 pos0) (depth + 1) itv (.ref D) env) env >>= fun _ => k) Q E s2) fun itv s2 pk => ?_) (fun cv s1 h1 => ?_) fun _ _ e => e)
    · obtain ⟨I, wr, dep, St, h', tk, rfl, rfl, st, W, st0, hwr, hdep⟩ := pk
      refine wpAny_bind (wpAny_runOwn ?_)
      have hcomp : codeAny (model prog w) A (.compLoop (.ListComp elt gens scope0 pos0) (depth + 1) (.ref I) (.ref D) env) (fun r s' => match r with | .ok f => wpAny (model prog w) A k Q E s' | .error e => cameBackBy (model prog w) A env E e s') { s with heap := h', toks := tk } := by
        refine ih.comp A sc env pb nb lent vars val { s with heap := h', toks := tk } t it ifs elt gens scope0 pos0 (depth + 1) [] D ys out vars' I _ wr dep its St 0 rm.pred (by simpa using hv) hsome.1 hsome.2 (F.stays st) no (hl.at fun o e => st D o e) hD hsz W st0 (Nat.zero_le _)
          (fun a o => ⟨o.1.1, fun x => o.1.2 (.of_wc x)⟩) (fun a o => ⟨fun e => inS a e (hwr a o), fun e => hDe (e ▸ hwr a o)⟩) (fun a o => ?_) (fun a o => none_of_stays F.base (hwr a o)) hDb (fun a o => ⟨F.pbf a (hwr a o), F.nbf a (hwr a o)⟩) _ fun s' g => ?_
        · rcases (hdep a o).2 with e | e
          · exact ⟨fun x => inS a x e, fun x => hDe (x ▸ e)⟩
          · exact ⟨e.2, fun x => hD (x ▸ e.1)⟩
        · refine q s' ?_
          obtain ⟨h2, tk2, val2, zs, rfl, F2, no2, hl2, va, k2, ex2⟩ := g
          refine ⟨h2, tk2, val2, zs, rfl, F2, no2, hl2, va, fun a o e c => k2 a o (st a o e) (c.imp (fun c x => ?_) id), fun a e => (ex2 a e).elim (fun z => .inl (none_of_stays st z)) fun x => x.elim (fun y => .inr (.inl y)) fun x => x.elim (fun y => .inr (.inr y)) fun y => .inl (hwr a y)⟩
          rcases x with x | x | x
          · exact c (.inl x)
          · exact c (.inr x)
          · rw [hwr a x] at e; cases e
      exact wpAny_noStart hsome.1 hcomp (W.self 0 _ _ _ st0 hcomp)
    · refine wpAny_bind (wpAny_standAt (wpAny_bind (wpAny_of_eq (hset cv) ?_)))
      exact wpAny_bind (wpAny_holding h1)
end
end Mine
namespace Mine
open PySem PySem.Calls PyProof.Rows PySem.W PySem.SeqAt
section
variable {T : Tab} {hb h h₀ h' : Heap} {n : Nat} {A : Around} {sc : Scope} {env : Env} {vars : Vars} {pub : Pubs} {pb nb : Addr → Prop} {lent : Addr} {val : Str → Option Value} {s : Shared} {p : Bool} {v : PV}
theorem noOwn_set {x : Str} {v : PV} (no : NoOwn vars) : NoOwn (setV x (.P, v) vars) := fun y md u hy => by
  by_cases hyx : y = x
  · subst hyx; rw [look_setV, if_pos rfl] at hy; cases hy; rfl
  · rw [look_isSome hyx] at hy; exact no y md u hy
theorem bind_noOwn : ∀ n : Nat, (∀ (t : Expr) (v : PV) (vars vars' : Vars), bindT n sc t v vars = some vars' → NoOwn vars → NoOwn vars') ∧ (∀ (ts : List Expr) (vs : List PV) (vars vars' : Vars), bindTs n sc ts vs vars = some vars' → NoOwn vars → NoOwn vars')
  | 0 => ⟨fun t v vars vars' e => noS e, fun t v vars vars' e => noS e⟩
  | n + 1 => by
    obtain ⟨i1, i2⟩ := bind_noOwn n
    refine ⟨fun t v vars vars' e no => ?_, fun ts vs vars vars' e no => ?_⟩
    · cases t with
      | Name x pos =>
        obtain ⟨hx, e⟩ := onlyIf (show (bif ownK sc x then some (setV x (.P, v) vars) else none) = some vars' from e)
        cases e; exact noOwn_set no
      | Tuple es k pos =>
        obtain ⟨l, _, e⟩ := bnd (show (tupL v).bind (fun l => bindTs n sc es l vars) = some vars' from e)
        exact i2 _ _ _ _ e no
      | _ => exact noS e
    · match ts, vs, e with
      | [], _ :: _, e => exact noS e
      | _ :: _, [], e => exact noS e
      | [], [], e => cases (show some vars = some vars' from e); exact no
      | t :: ts, v :: vs, e =>
        obtain ⟨v1, e1, e2⟩ := bnd (show (bindT n sc t v vars).bind (bindTs n sc ts vs) = some vars' from e)
        exact i2 _ _ _ _ e2 (i1 _ _ _ _ e1 no)
theorem step_comp (ih : Snd T hb n) : CompOk T hb (n + 1) := by
  intro A sc env pb nb lent vars val s target iter ifs elt gens scope0 pos0 depth rest D ys out vars' I pi wr dep its St i rm hv hg hrest F no hl hD hsz W st hi hpi hwr hdep hwb hDb hpn R q
  refine codeAny_of_tree ?_
  show wpAny _ A ((compTurn (.ListComp elt gens scope0 pos0) depth (.ref I) (.ref D) env).onRaise (fun x => do noteFrame x env; theTreesLotGoes x)) _ _ s
  refine wpAny_noted ?_
  rw [compTurn_at hg]
  refine wpAny_bind (wpAny_standAt (wpAny_bind ?_))
  cases hx : its[i]? with
  | none =>
    have hlen : i = its.length := by have := List.getElem?_eq_none_iff.mp hx; (first | with_reducible exact Nat.le_trans (by assumption) (by decide) | lia | omega)
    subst hlen
    rw [List.drop_length] at hv
    cases (show some ([], vars) = some (out, vars') from hv)
    refine W.done s _ _ st fun h' tk k => wpAny_pure (q _ ⟨h', tk, val, #[], rfl, ?_, no, by simpa using hl.at fun o e => k D o (fun x => (hwr D x).2 rfl) e, .nil, ?_, fun a e => (ex_or k a e).imp id fun x => .inr (.inr x)⟩)
    · exact F.move' (kp_its (fun a e => W.it _ _ a st e) k) (fun a e => .inl (W.it _ _ a st e)) (fun a e => (ex_or k a e).elim (F.pbf a) fun x => (hpn a x).1) hwb (fun _ x _ => x) fun a e => (ex_or k a e).elim (F.nbf a) fun x => (hpn a x).2
    · exact (kp_its (fun a e => W.it _ _ a st e) k).mono fun _ x => .inr (.inr x)
  | some x =>
    have hlt : i < its.length := (List.getElem?_eq_some_iff.mp hx).1
    have hdrop : its.drop i = x :: its.drop (i + 1) := by rw [List.drop_eq_getElem_cons hlt, (List.getElem?_eq_some_iff.mp hx).2]
    rw [hdrop] at hv
    obtain ⟨here, hh, hv⟩ := bnd (show (zCompStep (zRec T n) sc vars target ifs rest elt x n).bind (fun here => (xComp T n sc here.2 target ifs rest elt (its.drop (i + 1))).bind fun more => some (here.1 ++ more.1, more.2)) = some (out, vars') from hv)
    obtain ⟨more, e4, hv⟩ := bnd hv
    obtain ⟨vars1, e1, hh⟩ := bnd (show (bindT n sc target x vars).bind (fun vars' => (xTs T n sc vars' .And ifs).bind fun c => bif c then xElt T n sc vars' rest elt else some ([], vars')) = some here from hh)
    obtain ⟨c, e2, e3⟩ := bnd hh
    cases hv
    refine W.go hx st (fun v => rfl) fun v h1 tk1 rv st1 k => ?_
    have kp1 := kp_its (fun a e => W.it _ _ a st e) k
    have ex1 := ex_its (fun a e => W.it _ _ a st1 e) k
    have F1 : Frame hb sc env pb nb lent vars val h1 := F.move kp1 (fun a e => .inl (W.it _ _ a st e)) ex1 hwb (fun _ x _ => x) fun a e => F.nbf a (ex1 a e)
    have hl1 : h1.PlainList D ys := hl.at fun o e => k D o (fun x => (hwr D x).2 rfl) e
    have piD : ∀ a, pi a → a ≠ D := fun a o e => hD (e ▸ (hpi a o).1.2)
    refine wpAny_bind ((bind_sound rm.h n).1 target x vars vars1 val { s with heap := h1, toks := tk1 } v pi _ _ e1 F1 rv (fun a o => ⟨(hpi a o).1, fun x => (hpi a o).2 (no.wr x)⟩) fun h2 tk2 val1 F2 adv2 hw2 => ?_)
    have no1 := (bind_noOwn n).1 _ _ _ _ e1 no
    have hl2 : h2.PlainList D ys := hl1.at fun o e => adv2.kp D o e (.inl fun x => hD (F1.wr_nb x))
    have rm' := rm.pred
    refine wpAny_bind ((ih.ts A sc env vars1 _ { s with heap := h2, toks := tk2 } .And ifs c rm' e2 F2.reads F2.fresh).2 rfl _ _ fun h3 tk3 st3 => ?_)
    have F3 := F2.stays st3
    have hl3 : h3.PlainList D ys := hl2.at fun o e => st3 D o e
    have inS : ∀ a, Wc sc env a → ¬ wr a := fun a x y => (hwr a y).1 x
    -- from here on
    have go : ∀ (h4 : Heap) (tk4 : Nat) (val4 : Str → Option Value) (zs : Array Value), Frame hb sc env pb nb lent here.2 val4 h4 → NoOwn here.2 → h4.PlainList D (ys ++ zs) → VAll h4 (fun a => (pb a ∧ nb a) ∧ ¬ Wc sc env a) here.1 zs.toList → Kp (fun a => Wc sc env a ∨ a = D) h3 h4 → (∀ a, h4.get? a = none → h3.get? a = none ∨ (Wc sc env a ∨ a = D)) →
        codeAny (model prog w) A (.compLoop (.ListComp elt gens scope0 pos0) depth (.ref I) (.ref D) env) R { s with heap := h4, toks := tk4 } := by
      intro h4 tk4 val4 zs F4 no4 hl4 va k4 ex4
      have tot : Kp (fun a => Wc sc env a ∨ a = D) h1 h4 := ((adv2.kp.mono fun a x => .inl (no.wr x)).trans (Kp.of_stays st3)).trans k4
      have st4 : St (i + 1) h4 := W.frame _ _ _ _ (fun a o x => x.elim (hpi a o).2 (piD a o)) (fun a o x => x.elim (hwr a o).1 (hwr a o).2) (fun a o x => x.elim (hdep a o).1 (hdep a o).2) tot st1
      have hzs : zs.size = here.1.length := by have := va.length; simp at this; (first | with_reducible exact Nat.le_trans (by assumption) (by decide) | lia | omega)
      refine ih.comp A sc env pb nb lent here.2 val4 { s with heap := h4, toks := tk4 } target iter ifs elt gens scope0 pos0 depth rest D (ys ++ zs) more.1 more.2 I pi wr dep its St (i + 1) rm' e4 hg hrest F4 no4 hl4 hD (by simp [hzs] at hsz ⊢; (first | with_reducible exact Nat.le_trans (by assumption) (by decide) | lia | omega)) W st4 hlt hpi hwr hdep hwb hDb hpn R fun s' g => ?_
      refine q s' (Grown.trans va ((kp1.mono fun _ x => .inr (.inr x)).trans (tot.mono fun _ x => x.elim .inl fun y => .inr (.inl y))) (fun a e => (ex4 a e).elim (fun z => (adv2.ex a (none_of_stays st3 z)).elim (fun z => .inl (ex1 a z)) fun z => .inr (.inl (no.wr z))) fun z => .inr (z.elim .inl fun y => .inr (.inl y))) (fun _ x => x) (fun a hc o x => ?_) g)
      rcases x with x | x | x
      · exact o.2 x
      · exact hD (x ▸ o.1.2)
      · exact ItOb.not hc.mut (W.it _ _ a st4 x)
    cases c with
    | false =>
      cases (show some ([], vars1) = some here from e3)
      exact wpAny_pure ⟨rfl, go h3 tk3 val1 #[] F3 no1 (by simpa using hl3) .nil (Kp.refl _ _) fun _ x => .inl x⟩
    | true =>
      refine ih.elt A sc env pb nb lent vars1 val1 { s with heap := h3, toks := tk3 } elt gens scope0 pos0 depth rest D ys here.1 here.2 rm' e3 hrest F3 no1 hl3 hD (by simp at hsz; (first | with_reducible exact Nat.le_trans (by assumption) (by decide) | lia | omega)) hDb _ _ _ fun s' g => ?_
      obtain ⟨h4, tk4, val4, zs, rfl, F4, no4, hl4, va, k4, ex4⟩ := g
      exact wpAny_pure ⟨rfl, go h4 tk4 val4 zs F4 no4 hl4 va k4 ex4⟩
theorem comp_run (ih : Snd T hb n) (rm : Room A n) {elt t it : Expr} {ifs : List Expr} {rest : List Comprehension} {scope : Scope} {pos : Pos} {items : List PV} {r : List PV × Vars} {use : Option (Value → Sem Unit)} {E : Value → Shared → Prop} {Q : Value → Shared → Prop}
    (R : Reads hb sc env pub vars s.heap) (F : ∀ b, s.heap.get? b = none → pub.p b) (hok : compOk sc scope = true) (hi : xIter T n sc vars (isTupT t) it = some items) (hc : xComp T n scope (within scope.names vars) t ifs rest elt items = some r) (hz : szOk r.1.length = true)
    (q : ∀ C D h' tk m, s.heap.StaysIn h' → s.heap.get? D = none → s.heap.get? C = none → h'.Ns C m → VRep h' (fun a => pub.p a ∧ a ≠ C) (.list r.1) (.ref D) → compPost (model prog w) A E use Q (.ref D) C (.ok .next) { s with heap := h', toks := tk }) :
    wpAny (model prog w) A (comprehension (.ListComp elt (⟨t, it, ifs, 0⟩ :: rest) scope pos) scope env (firstIterPos (⟨t, it, ifs, 0⟩ :: rest) pos) (newList []) false (eval it env) use) Q E s := by
  obtain ⟨hkind, hnd, hfree⟩ := compOk_parts hok
  have hset : ∀ x, foldedSetIterable it env x = pure x := folded_of (by
    rintro elts k pos rfl
    cases n with
    | zero => exact noS hi
    | succ n => cases n <;> exact noS hi)
  refine wpAny_comprehension_free (g := ⟨t, it, ifs, 0⟩) (gs := rest) rfl hset (closureFor_pure fun x hx => let ⟨c, _, e, _⟩ := R.cel x (hfree x hx).2; ⟨c, e⟩) hkind (fun x hx hk => lookup_mem' hnd (by obtain ⟨a, b⟩ := x; exact hk ▸ hx)) ?_
  refine ih.iter A sc env vars pub s t (isTupT t) it items rm hi id R F E _ fun itv s2 pk => ?_
  obtain ⟨I, wr, dep, St, h2, tk, rfl, rfl, st, W, st0, hwr, hdep⟩ := pk
  refine wpAny_newObj_type ?_
  refine wpAny_newFunctionEnv_comp ?_
  have st3 : s.heap.StaysIn (h2.push { cls := .type "list", data := .seq ([] : List Value).toArray }) := stays_trans st (stays_push _ _)
  have hDs : s.heap.get? h2.objs.size = none := none_of_stays st (fresh_none h2)
  have hpl : (h2.push { cls := .type "list", data := .seq ([] : List Value).toArray }).PlainList h2.objs.size #[] := ⟨0, Heap.get?_push_size _ rfl⟩
  have hD3 : (h2.push { cls := .type "list", data := .seq ([] : List Value).toArray }).get? h2.objs.size ≠ none := by obtain ⟨m, e⟩ := hpl; rw [e]; simp
  obtain ⟨⟨val, Fr⟩, no, st4, wcf⟩ := comp_frame (lent := 0) R F st3 hDs hD3 hok
  have st4' := stays_trans (stays_push h2 { cls := .type "list", data := .seq ([] : List Value).toArray }) st4
  have wcD : ∀ a, Wc scope (compEnv' scope env (h2.push { cls := .type "list", data := .seq ([] : List Value).toArray }).objs.size) a → a ≠ h2.objs.size := fun a e q => hD3 (q ▸ wcf a e)
  have wc2 : ∀ a, Wc scope (compEnv' scope env (h2.push { cls := .type "list", data := .seq ([] : List Value).toArray }).objs.size) a → h2.get? a = none := fun a e => none_of_stays (stays_push _ _) (wcf a e)
  have hcomp : codeAny (model prog w) A (.compLoop (.ListComp elt (⟨t, it, ifs, 0⟩ :: rest) scope pos) 0 (.ref I) (.ref h2.objs.size) (compEnv' scope env (h2.push { cls := .type "list", data := .seq ([] : List Value).toArray }).objs.size))
      (compPost (model prog w) A E use Q (.ref h2.objs.size) (h2.push { cls := .type "list", data := .seq ([] : List Value).toArray }).objs.size)
      { s with heap := pushCells ((h2.push { cls := .type "list", data := .seq ([] : List Value).toArray }).push { cls := .type "dict", data := .dict #[] }) scope.names, toks := tk } := by
    refine ih.comp A scope _ pub.p (fun a => a ≠ h2.objs.size) 0 (within scope.names vars) val _ t it ifs elt _ scope pos 0 rest h2.objs.size #[] r.1 r.2 I _ wr dep items St 0 rm (by simpa using hc) rfl rfl Fr no (hpl.at fun o e => st4 _ o e) (fun e => e rfl) (by have := hz; simp [szOk] at this; simpa using this) W
      (W.frame (fun _ => False) 0 h2 _ (fun _ _ => id) (fun _ _ => id) (fun _ _ => id) (Kp.of_stays st4') st0) (Nat.zero_le _)
      (fun a o => ⟨⟨o.1, fun e => o.2 (e ▸ fresh_none h2)⟩, fun x => o.2 (wc2 a x)⟩) (fun a o => ?_) (fun a o => ?_) (fun a o => none_of_stays R.base (hwr a o)) (none_of_stays R.base hDs) (fun a o => ⟨F a (hwr a o), fun e => by have := (W.it _ _ a st0 o).some; rw [e, fresh_none] at this; exact this rfl⟩) _ fun s' g => ?_
    · have hex : h2.get? a ≠ none := (W.it _ _ a st0 o).some
      exact ⟨fun x => hex (wc2 a x), fun e => hex (e ▸ fresh_none h2)⟩
    · have hex := (hdep a o).1
      exact ⟨fun x => hex (wc2 a x), fun e => hex (e ▸ fresh_none h2)⟩
    · obtain ⟨h5, tk5, val5, zs, rfl, F5, no5, hl5, va, k5, ex5⟩ := g
      obtain ⟨m, hm, _⟩ := F5.ns
      have hC : s.heap.get? (h2.push { cls := .type "list", data := .seq ([] : List Value).toArray }).objs.size = none := none_of_stays st3 (fresh_none _)
      refine q _ _ h5 tk5 m (fun b o e => k5 b o (st4' b o (st b o e)) (.inl ?_)) hDs hC hm ?_
      · rintro (x | x | x)
        · rw [none_of_stays st (wc2 b x)] at e; cases e
        · rw [x, hDs] at e; cases e
        · rw [hwr b x] at e; cases e
      · refine .list ⟨F _ hDs, fun e => hD3 (by rw [e]; exact fresh_none _)⟩ (by simpa using hl5) (va.weaken fun a o => ⟨o.1.1, fun e => o.2 (.inl e)⟩)
  exact wpAny_noStart (gens := ⟨t, it, ifs, 0⟩ :: rest) (depth := 0) rfl hcomp (W.self 0 _ _ _ (W.frame (fun _ => False) 0 h2 _ (fun _ _ => id) (fun _ _ => id) (fun _ _ => id) (Kp.of_stays st4') st0) hcomp)
theorem e_comp (ih : Snd T hb n) (rm : Room A n) {elt t it : Expr} {ifs : List Expr} {rest : List Comprehension} {scope : Scope} {pos : Pos} {items : List PV} {r : List PV × Vars}
    (R : Reads hb sc env pub vars s.heap) (F : ∀ b, s.heap.get? b = none → pub.p b) (hok : compOk sc scope = true) (hi : xIter T n sc vars (isTupT t) it = some items) (hc : xComp T n scope (within scope.names vars) t ifs rest elt items = some r) (hz : szOk r.1.length = true) :
    Gets A s (eval (.ListComp elt (⟨t, it, ifs, 0⟩ :: rest) scope pos) env) (Oks true pub) (.list r.1) := fun E Q q => by
  rw [eval_ListComp]
  refine comp_run ih rm (use := none) R F hok hi hc hz fun C D h' tk m st hD hC hm rp => ⟨m, hm, fun h'' hs => ?_⟩
  have kp := kp_sameBut hs (ns_mut hm) (ns_notTup hm)
  have rp' : VRep h'' pub.p (.list r.1) (.ref D) := rp.kp kp fun a o => ⟨fun e => o.2 e, o.1⟩
  refine q _ h'' tk (fun b o e => ?_) fun ok o => ?_
  · have : b ≠ C := by rintro rfl; rw [hC] at e; cases e
    exact (hs.2 b this).trans (st b o e)
  · rcases o with rfl | rfl | ⟨_, rfl⟩
    · exact rp'.weaken fun _ _ => trivial
    · exact rp'.weaken pub.sub
    · exact rp'
end
end Mine
namespace Mine
open PySem PySem.Calls PyProof.Rows PySem.W PySem.SeqAt
noncomputable def MethOf (s : Shared) (name : Str) (ov : Value) (K : String → Prop) : Prop :=
  ∃ T id, PlainAttrs T ∧ Slot T name id ∧ typeOf (.builtin id) = pure (.type "method_descriptor") ∧ s.TypeIs ov T ∧ (∀ a, ov = .ref a → ∃ ob, s.heap.get? a = some ob ∧ ob.dict = none) ∧ K id
structure Leafs : Prop where
  biV : ∀ {A : Around} {n : Nat} {s : Shared} {pub : Pubs} {b : BI} {p : Bool} {v r : PV} {cv : Value}, Room A n → s.heap.get? mainGlobals ≠ none → Mine.biV b (p, v) = some r → (∀ b, s.heap.get? b = none → pub.p b) → (∀ ok, Oks p pub ok → VRep s.heap ok v cv) →
    Gets A s (call (biVal b) [cv]) (Oks true pub) r
  bi2 : ∀ {A : Around} {n : Nat} {s : Shared} {pub : Pubs} {b : BI} {v1 v2 r : PV} {c1 c2 : Value}, Room A n → Mine.bi2 b v1 v2 = some r → VRep s.heap (fun _ => True) v1 c1 → VRep s.heap (fun _ => True) v2 c2 →
    Gets A s (call (biVal b) [c1, c2]) (Oks true pub) r
  isi : ∀ {A : Around} {n : Nat} {s : Shared} {pub : Pubs} {v r : PV} {cv : Value}, Room A n → isiP v = some r → VRep s.heap (fun _ => True) v cv → Gets A s (call (.builtin "isinstance") [cv, .type "tuple"]) (Oks true pub) r
  meth1 : ∀ {A : Around} {n : Nat} {s : Shared} {pub : Pubs} {name : Str} {o x r : PV} {co : Value}, Room A n → Mine.meth1 name o x = some r → VRep s.heap (fun _ => True) o co →
    MethOf s name co fun id => ∀ h' tk cx, s.heap.StaysIn h' → VRep h' (fun _ => True) x cx → Gets A { s with heap := h', toks := tk } (call (.builtin id) [co, cx]) (Oks true pub) r
  meth2 : ∀ {A : Around} {n : Nat} {s : Shared} {pub : Pubs} {name : Str} {o x y r : PV} {co : Value}, Room A n → Mine.meth2 name o x y = some r → VRep s.heap (fun _ => True) o co →
    MethOf s name co fun id => ∀ h' tk cx cy, s.heap.StaysIn h' → VRep h' (fun _ => True) x cx → VRep h' (fun _ => True) y cy → Gets A { s with heap := h', toks := tk } (call (.builtin id) [co, cx, cy]) (Oks true pub) r
  iterV : ∀ {A : Around} {n : Nat} {s : Shared} {pub : Pubs} {a : Bool × PV} {its : List PV} {cv : Value} {target : Expr} {E : Value → Shared → Prop} {Q : Value → Shared → Prop}, Room A n → itemsP a = some its → (∀ ok, Oks a.1 pub ok → VRep s.heap ok a.2 cv) →
    (∀ it s', Pack A s target pub.p pub.nw its it s' → Q it s') → wpAny (model prog w) A (pyIter cv) Q E s
  iterRange : ∀ {A : Around} {n : Nat} {s : Shared} {pub : Pubs} {vs : List PV} {its : List PV} {cs : List Value} {target : Expr} {E : Value → Shared → Prop} {Q : Value → Shared → Prop}, Room A n → evalRange vs = some its → VAll s.heap (fun _ => True) vs cs →
    (∀ it s', Pack A s target pub.p pub.nw its it s' → Q it s') → wpAny (model prog w) A (call (.type "range") cs) (fun cv s₁ => wpAny (model prog w) A (pyIter cv) Q E s₁) E s
  iterEnum : ∀ {A : Around} {n : Nat} {s : Shared} {pub : Pubs} {a : Bool × PV} {its : List PV} {cv : Value} {target : Expr} {E : Value → Shared → Prop} {Q : Value → Shared → Prop}, Room A n → enumP a = some its → isTupT target = true → (∀ ok, Oks a.1 pub ok → VRep s.heap ok a.2 cv) →
    (∀ it s', Pack A s target pub.p pub.nw its it s' → Q it s') → wpAny (model prog w) A (call (.type "enumerate") [cv]) (fun cv s₁ => wpAny (model prog w) A (pyIter cv) Q E s₁) E s
  view : ∀ {A : Around} {n : Nat} {s : Shared} {pub : Pubs} {a : Bool × PV} {tup : Bool} {name : Str} {its : List PV} {co : Value} {target : Expr} {E : Value → Shared → Prop} {Q : Value → Shared → Prop}, Room A n → viewP tup name a = some its → (tup = true → isTupT target = true) → (∀ ok, Oks a.1 pub ok → VRep s.heap ok a.2 co) →
    (∀ it s', Pack A s target pub.p pub.nw its it s' → Q it s') → MethOf s name co fun id => wpAny (model prog w) A (call (.builtin id) [co]) (fun cv s₁ => wpAny (model prog w) A (pyIter cv) Q E s₁) E s
  sumV : ∀ {A : Around} {n : Nat} {s : Shared} {pub : Pubs} {a : Bool × PV} {name : Str} {l : List PV} {r : PV} {co : Value} {E : Value → Shared → Prop} {Q : Value → Shared → Prop}, Room A n → viewP false name a = some l → biIt .sum l = some r → VRep s.heap (fun _ => True) a.2 co →
    (∀ cv h' tk, s.heap.StaysIn h' → (∀ ok, Oks true pub ok → VRep h' ok r cv) → Q cv { s with heap := h', toks := tk }) → MethOf s name co fun id => wpAny (model prog w) A (call (.builtin id) [co]) (fun cv s₁ => wpAny (model prog w) A (call (.builtin "sum") [cv]) Q E s₁) E s
  put : ∀ {A : Around} {n : Nat} {s : Shared} {ks vs ks' vs' : List PV} {k v : PV} {d : Addr} {ck cv : Value} {E : Value → Shared → Prop} {Q : Unit → Shared → Prop}, Room A n → keyP k = true → v.imm = true → szOk ks.length = true → putD2 k v ks vs = some (ks', vs') → okItems (.dict ks vs) = true →
    VRep s.heap (fun b => b = d) (.dict ks vs) (.ref d) → VRep s.heap (fun _ => True) k ck → VRep s.heap (fun _ => True) v cv →
    (∀ h' tk, VRep h' (fun b => b = d) (.dict ks' vs') (.ref d) → Heap.SameBut d s.heap h' → Q () { s with heap := h', toks := tk }) → wpAny (model prog w) A (dictSet d ck cv) Q E s ∧ wpAny (model prog w) A (setItem (.ref d) ck cv) Q E s
  lmeth : ∀ {A : Around} {n : Nat} {s : Shared} {m : Str} {as : List (Bool × PV)} {l l' : List PV} {d : Addr} , Room A n → methL m (as.map (·.2)) l = some l' → okItems (.list l) = true → VRep s.heap (fun b => b = d) (.list l) (.ref d) →
    MethOf s m (.ref d) fun id => ∀ h' tk cs pub (E : Value → Shared → Prop) (Q : Value → Shared → Prop), s.heap.StaysIn h' → VsRep h' pub as cs →
      (∀ h'' tk', VRep h'' (fun b => b = d) (.list l') (.ref d) → Heap.SameBut d h' h'' → Q .none { s with heap := h'', toks := tk' }) → wpAny (model prog w) A (call (.builtin id) (.ref d :: cs)) Q E { s with heap := h', toks := tk }
section
variable {T : Tab} {hb h h₀ h' : Heap} {n : Nat} {A : Around} {sc : Scope} {env : Env} {vars : Vars} {pub : Pubs} {pb nb : Addr → Prop} {lent : Addr} {val : Str → Option Value} {s : Shared} {p : Bool} {v : PV}
theorem isG_kind {f : Str} (h : isG sc f = true) : kindIn f sc.names = some .globalImplicit := by
  unfold isG at h
  split at h
  · assumption
  · cases h
theorem biOf_debug {f : Str} {b : BI} (h : biOf f = some b) : (f == ("__debug__" : Str)) = false := by
  cases q : (f == ("__debug__" : Str)) with
  | false => rfl
  | true =>
    have := beq_iff_eq.mp q
    subst this
    have : biOf "__debug__" = none := by decide +kernel
    rw [this] at h; cases h
theorem load_bi (G : Glob T hb) (R : Reads hb sc env pub vars s.heap) {f : Str} {q : Pos} {b : BI} {E : Value → Shared → Prop} {Q : Value → Shared → Prop} (hg : isG sc f = true) (hb' : biOf f = some b) (k : Q (biVal b) s) :
    wpAny (model prog w) A (eval (.Name f q) env) Q E s := by
  obtain ⟨mg, mb, h1, h2, h3, _⟩ := G.ns
  obtain ⟨e1, e2⟩ := h3 f b hb'
  have hk : env.kindOf f = some .globalImplicit := (R.kok f _ (isG_kind hg)).elim id fun e => by cases e.1
  refine Name_function_global R.kind hk (loadGlobal_builtin (mg := mg) (mb := mb) ?_ e1 ?_ e2 k) (biOf_debug hb')
  · rw [R.glob]; exact h1.keeps R.base
  · rw [R.blt]; exact h2.keeps R.base
theorem load_fn (G : Glob T hb) (R : Reads hb sc env pub vars s.heap) {f : Str} {q : Pos} {fn : Fn} {E : Value → Shared → Prop} {Q : Value → Shared → Prop} (hg : isG sc f = true) (hf : tabLook f T = some fn) (k : ∀ a, FnAt hb a fn → Q (.ref a) s) :
    wpAny (model prog w) A (eval (.Name f q) env) Q E s := by
  obtain ⟨mg, mb, h1, _, _, h3⟩ := G.ns
  obtain ⟨hd, a, e1, fa⟩ := h3 f fn hf
  have hk : env.kindOf f = some .globalImplicit := (R.kok f _ (isG_kind hg)).elim id fun e => by cases e.1
  refine Name_function_global R.kind hk (loadGlobal_global (mg := mg) ?_ e1 (k a fa)) hd
  rw [R.glob]; exact h1.keeps R.base
theorem es_plain {vars : Vars} {pos : Pos} {env : Env} : ∀ {es : List Expr} {n : Nat} {vs : List (Bool × PV)}, xEs T n sc vars es = some vs → (backTo pos (starEach es env)).any (·.1) = false ∧ (es = [] ∨ ∃ x rest, backTo pos (starEach es env) = (false, x) :: rest)
  | [], n, vs, h => ⟨rfl, .inl rfl⟩
  | e :: r, n, vs, h => by
    cases n with
    | zero => exact noS h
    | succ n =>
      obtain ⟨a, ha, hv⟩ := bnd (show (xE T n sc vars e).bind (fun v => (xEs T n sc vars r).bind fun vs => some (v :: vs)) = some vs from h)
      obtain ⟨as, has, hv⟩ := bnd hv
      have ih := es_plain (pos := pos) (env := env) has
      rw [star_of ha r env]
      refine ⟨?_, .inr ⟨_, _, rfl⟩⟩
      show (false || (backTo pos (starEach r env)).any (·.1)) = false
      rw [ih.1]; rfl
theorem args_go {es : List Expr} {vs : List (Bool × PV)} {pos : Pos} {f : Value} {E : Value → Shared → Prop} {Q : Args → Shared → Prop} {n : Nat} (h : xEs T n sc vars es = some vs)
    (k : wpAny (model prog w) A (spliced (backTo pos (starEach es env))) (fun cs s₁ => Q ⟨cs, []⟩ s₁) E s) : wpAny (model prog w) A (evalArgs f true (backTo pos (starEach es env)) []) Q E s := by
  rcases (es_plain (pos := pos) (env := env) h).2 with rfl | ⟨x, rest, e⟩
  · have k' : wpAny (model prog w) A (spliced []) (fun cs s₁ => Q ⟨cs, []⟩ s₁) E s := k
    show wpAny (model prog w) A (evalArgs f true [] []) Q E s
    unfold evalArgs
    show wpAny (model prog w) A (spliced [] >>= _) Q E s
    refine wpAny_bind (wpAny_mono k' (fun cs s₁ h₁ => wpAny_bind (wpAny_pure ?_)) fun _ _ e => e)
    refine wpAny_holding ?_
    exact wpAny_bind (wpAny_pure (wpAny_bind (wpAny_pure (wpAny_pure h₁))))
  · rw [e] at k ⊢
    exact Calls.evalArgs_plain k
theorem call_bi {b : BI} {args : List (Bool × Sem Value)} {pos : Pos} {E : Value → Shared → Prop} {Q : Value → Shared → Prop} (hp : args.any (·.1) = false)
    (h : wpAny (model prog w) A (evalArgs (biVal b) true args []) (fun a s₁ => wpAny (model prog w) A (call (biVal b) ([] ++ a.pos) a.kw) Q E s₁) E s) : wpAny (model prog w) A (callWith pos (biVal b) [] args []) Q E s := by
  cases b with
  | len => exact Calls.callWith_builtin (id := "len") (first := []) hp h
  | abs => exact Calls.callWith_builtin (id := "abs") (first := []) hp h
  | min => exact Calls.callWith_builtin (id := "min") (first := []) hp h
  | max => exact Calls.callWith_builtin (id := "max") (first := []) hp h
  | sum => exact Calls.callWith_builtin (id := "sum") (first := []) hp h
  | sorted => exact Calls.callWith_builtin (id := "sorted") (first := []) hp h
  | isinstance => exact Calls.callWith_builtin (id := "isinstance") (first := []) hp h
  | list => exact PyProof.Rows.callWith_type (T := "list") (first := []) hp h
  | tuple => exact PyProof.Rows.callWith_type (T := "tuple") (first := []) hp h
  | dict => exact PyProof.Rows.callWith_type (T := "dict") (first := []) hp h
  | range => exact PyProof.Rows.callWith_type (T := "range") (first := []) hp h
  | enumerate => exact PyProof.Rows.callWith_type (T := "enumerate") (first := []) hp h
theorem few_args {b : Bool} {n : Nat} {pos : Pos} {env : Env} (h : b = true) (hl : n < 30) : (b && (backToKw pos (keywordEach [] env)).all (fun x => x.1.isSome) && decide (n + ([] : List Keyword).length + (if ([] : List Keyword).isEmpty then 0 else 1) < 30)) = true := by
  rw [h]
  exact decide_eq_true hl
theorem meth_call {o : Expr} {name : Str} {apos pos : Pos} {args : List Expr} {vs : List (Bool × PV)} {n : Nat} {E : Value → Shared → Prop} {Q : Value → Shared → Prop} (hb : plainBase o = true) (hline : (apos.endLine == pos.line) = true) (hes : xEs T n sc vars args = some vs) (hfew : args.length < 30)
    (h : wpAny (model prog w) A (eval o env) (fun ov s₁ => MethOf s₁ name ov fun id => wpAny (model prog w) A (spliced (backTo pos (starEach args env))) (fun cs s₂ => wpAny (model prog w) A (call (.builtin id) (ov :: cs)) Q E s₂) E s₁) E s) :
    wpAny (model prog w) A (eval (.Call (.Attribute o name apos) args [] pos) env) Q E s := by
  obtain ⟨hp, _⟩ := es_plain (pos := pos) (env := env) hes
  refine wpAny_Call_method_late (by cases o <;> first | rfl | cases hb) ?_ hline rfl (wpAny_mono h (fun ov s₁ h₁ => ?_) fun _ _ e => e)
  · have : (backTo pos (starEach args env)).all (fun x => !x.1) = true := by
      rw [List.all_eq_not_any_not]; simp only [Bool.not_not]; rw [hp]; rfl
    exact few_args this hfew
  · obtain ⟨T', id, a, b, c, d, e, f⟩ := h₁
    exact ⟨T', id, a, b, c, d, e, Calls.callWith_builtin hp (args_go hes (wpAny_mono f (fun _ _ x => x) fun _ _ x => x))⟩
theorem Glob.main (G : Glob T hb) (st : hb.StaysIn h) : h.get? mainGlobals ≠ none := by
  obtain ⟨mg, mb, hn, _⟩ := G.ns
  obtain ⟨o, es, ep, ho, _⟩ := hn
  rw [st _ _ ho]; simp
end
end Mine
namespace Mine
open PySem PySem.Calls PyProof.Rows PySem.W PySem.SeqAt
section
variable {T : Tab} {hb h h₀ h' : Heap} {n : Nat} {A : Around} {sc : Scope} {env : Env} {vars : Vars} {pub : Pubs} {pb nb : Addr → Prop} {lent : Addr} {val : Str → Option Value} {s : Shared} {p : Bool} {v : PV}
theorem Pack.back {h1 : Heap} {tk1 : Nat} {target : Expr} {pl dk : Addr → Prop} {its : List PV} {it : Value} {s' : Shared} (st : s.heap.StaysIn h1) (pk : Pack A { s with heap := h1, toks := tk1 } target pl dk its it s') : Pack A s target pl dk its it s' := by
  obtain ⟨I, wr, dep, St, h', tk, rfl, rfl, st', W, st0, hwr, hdep⟩ := pk
  exact ⟨I, wr, dep, St, h', tk, rfl, rfl, stays_trans st st', W, st0, fun a o => none_of_stays st (hwr a o), fun a o => ⟨(hdep a o).1, (hdep a o).2.imp (none_of_stays st) id⟩⟩
theorem name_call {f : Str} {q p : Pos} {args : List Expr} {b : BI} {vs : List (Bool × PV)} {E : Value → Shared → Prop} {Q : Value → Shared → Prop} (ih : Snd T hb n) (G : Glob T hb) (rm : Room A n) (R : Reads hb sc env pub vars s.heap) (F : ∀ b, s.heap.get? b = none → pub.p b)
    (hg : isG sc f = true) (hb' : biOf f = some b) (has : xEs T n sc vars args = some vs)
    (k : ∀ cs h1 tk1, s.heap.StaysIn h1 → VsRep h1 pub vs cs → wpAny (model prog w) A (call (biVal b) cs) Q E { s with heap := h1, toks := tk1 }) : wpAny (model prog w) A (eval (.Call (.Name f q) args [] p) env) Q E s := by
  rw [arm_eval_Call_Name']
  refine wpAny_bind (load_bi G R hg hb' ?_)
  show wpAny _ _ (callWith p (biVal b) [] (backTo p (starEach args env)) []) _ _ _
  exact call_bi (es_plain has).1 (args_go has (ih.es A sc env vars pub s args vs rm has R F p E _ fun cs h1 tk1 st1 vr => k cs h1 tk1 st1 vr))
theorem view_call {d name : Str} {q apos pos : Pos} {a : Bool × PV} {K : String → Value → Shared → Prop} {E : Value → Shared → Prop} {Q : Value → Shared → Prop} (ih : Snd T hb n) (rm : Room A n) (R : Reads hb sc env pub vars s.heap) (F : ∀ b, s.heap.get? b = none → pub.p b)
    (hline : (apos.endLine == pos.line) = true) (ha : xE T n sc vars (.Name d q) = some a)
    (k : ∀ co h1 tk1, s.heap.StaysIn h1 → (∀ ok, Oks a.1 pub ok → VRep h1 ok a.2 co) → MethOf { s with heap := h1, toks := tk1 } name co fun id => wpAny (model prog w) A (call (.builtin id) [co]) Q E { s with heap := h1, toks := tk1 }) :
    wpAny (model prog w) A (eval (.Call (.Attribute (.Name d q) name apos) [] [] pos) env) Q E s := by
  refine meth_call (n := 1) (sc := sc) (vars := vars) (T := T) rfl hline rfl (by decide) ?_
  refine ih.e A sc env vars pub s _ a.1 a.2 rm ha R F E _ fun co h1 tk1 st1 r1 => ?_
  obtain ⟨T', id, x1, x2, x3, x4, x5, x6⟩ := k co h1 tk1 st1 r1
  exact ⟨T', id, x1, x2, x3, x4, x5, wpAny_items_nil x6⟩
theorem enum1 {tup : Bool} {as : List (Bool × PV)} {its : List PV} (h : zEnum tup as = some its) : ∃ a, as = [a] ∧ tup = true ∧ enumP a = some its := by
  match as, h with
  | [], h => exact noS h
  | [a], h => obtain ⟨h1, h2⟩ := onlyIf (show (bif tup then enumP a else none) = some its from h); exact ⟨a, rfl, h1, h2⟩
  | _ :: _ :: _, h => exact noS h
theorem enumS1 {tup : Bool} {as : List (Bool × PV)} {its : List PV} (h : zEnumS tup as = some its) : ∃ v, as = [(true, v)] ∧ tup = true ∧ enumP (true, v) = some its := by
  match as, h with
  | [], h => exact noS h
  | [(p, v)], h =>
    obtain ⟨h1, h2⟩ := onlyIf (show (bif tup && p then enumP (p, v) else none) = some its from h)
    obtain ⟨h3, hp⟩ := two h1
    have hp : p = true := hp
    subst hp
    exact ⟨v, rfl, h3, h2⟩
  | _ :: _ :: _, h => exact noS h
theorem iter_any (ih : Snd T hb n) (LF : Leafs) (rm : Room A n) (R : Reads hb sc env pub vars s.heap) (F : ∀ b, s.heap.get? b = none → pub.p b) {target e : Expr} {its : List PV} (hv : (xE T n sc vars e).bind itemsP = some its)
    (E : Value → Shared → Prop) (Q : Value → Shared → Prop) (q : ∀ it s', Pack A s target pub.p pub.nw its it s' → Q it s') : wpAny (model prog w) A (eval e env) (fun cv s₁ => wpAny (model prog w) A (pyIter cv) Q E s₁) E s := by
  obtain ⟨a, ha, hv⟩ := bnd hv
  exact ih.e A sc env vars pub s _ a.1 a.2 rm ha R F E _ fun cv h1 tk1 st1 r1 => LF.iterV rm hv r1 fun it s' pk => q it s' (pk.back st1)
theorem step_iter (ih : Snd T hb n) (G : Glob T hb) (LF : Leafs) : IterOk T hb (n + 1) := by
  intro A sc env vars pub s target tup e its rm hv htup R F E Q q
  have rm' := rm.pred
  have hv : zIterK (zRec T n) sc vars tup e (iterKind e) = some its := hv
  rcases iterKind_is (e := e) with ⟨f, fq, args, p, he, hk⟩ | ⟨d, dq, name, apos, pos, he, hk⟩ | hk
  · rw [hk] at hv
    obtain ⟨hg, hv⟩ := onlyIf hv
    have hv : (bif isRng (biOf f) then (xEs T n sc vars args).bind (fun as => evalRange (as.map (·.2))) else bif isEnu (biOf f) then (xEs T n sc vars args).bind (zEnum tup) else (xE T n sc vars e).bind itemsP) = some its := hv
    cases hr : isRng (biOf f) with
    | true =>
      rw [hr] at hv
      obtain ⟨as, has, hv⟩ := bnd hv
      rw [he]
      exact name_call ih G rm' R F hg (isRng_eq hr) has fun cs h1 tk1 st1 vr => LF.iterRange rm' hv (vr.all (q := false) (by simp) _ .T) fun it s' pk => q it s' (pk.back st1)
    | false =>
      rw [hr] at hv
      cases hen : isEnu (biOf f) with
      | true =>
        rw [hen] at hv
        obtain ⟨as, has, hv⟩ := bnd hv
        obtain ⟨a, rfl, ht, hv⟩ := enum1 hv
        rw [he]
        refine name_call ih G rm' R F hg (isEnu_eq hen) has fun cs h1 tk1 st1 vr => ?_
        cases vr with | cons r rr =>
        cases rr
        exact LF.iterEnum (a := (_, _)) rm' hv (htup ht) r fun it s' pk => q it s' (pk.back st1)
      | false =>
        rw [hen] at hv
        exact iter_any ih LF rm' R F hv E Q q
  · rw [hk] at hv
    obtain ⟨hline, hv⟩ := onlyIf hv
    obtain ⟨a, ha, hv⟩ := bnd hv
    rw [he]
    exact view_call (K := fun _ _ _ => True) ih rm' R F hline ha fun co h1 tk1 st1 r1 => LF.view rm' hv htup r1 fun it s' pk => q it s' (pk.back st1)
  · rw [hk] at hv
    exact iter_any ih LF rm' R F hv E Q q
noncomputable def forPubs (sc : Scope) (env : Env) (pb nb : Addr → Prop) (vars : Vars) (val : Str → Option Value) : Pubs where
  p := fun a => (pb a ∧ nb a) ∧ ¬ Wr sc env vars val a
  nw := fun a => ¬ Wr sc env vars val a
  sub := fun _ o => o.2
theorem oks_for {a : Bool × PV} {cv : Value} (r : VRep h (frPubs sc env pb nb vars val).p a.2 cv) : ∀ ok, Oks a.1 (forPubs sc env pb nb vars val) ok → VRep h ok a.2 cv := fun ok o => by
  rcases o with rfl | rfl | ⟨_, rfl⟩
  · exact r.weaken fun _ _ => trivial
  · exact r.weaken fun _ o => o.2
  · exact r
theorem nameS_rep {sl : Mode × PV} {a : Bool × PV} {cv : Value} (F : Frame hb sc env pb nb lent vars val h) (hn : nameS sl = some a) (hs : SlotAt h pb nb lent (Wr sc env vars val) sl.1 sl.2 cv) :
    ∀ ok, Oks a.1 (forPubs sc env pb nb vars val) ok → VRep h ok a.2 cv := by
  obtain ⟨md, v⟩ := sl
  unfold nameS at hn
  cases md with
  | O => cases hn
  | M => cases hn
  | P => cases hn; exact oks_for (a := (true, v)) hs
  | B =>
    cases hn
    intro ok o
    rcases o with rfl | rfl | ⟨hp, rfl⟩
    · exact VRep.weaken (fun _ _ => trivial) hs
    · exact VRep.weaken (fun _ o => o.2) hs
    · exact imm_any (by simpa using hp) hs
theorem Frame.name {x : Str} {q : Pos} {sl : Mode × PV} {E : Value → Shared → Prop} {Q : Value → Shared → Prop} (F : Frame hb sc env pb nb lent vars val s.heap) (hk : readK sc x = true) (ho : oddName x = false) (hx : look x vars = some sl)
    (k : ∀ cv, val x = some cv → SlotAt s.heap pb nb lent (Wr sc env vars val) sl.1 sl.2 cv → Q cv s) : wpAny (model prog w) A (eval (.Name x q) env) Q E s := by
  obtain ⟨md, v⟩ := sl
  obtain ⟨hd, hc⟩ := oddName_no (x := x) (by simp [ho])
  obtain ⟨cv, hv, hs⟩ := F.slots x md v hx
  have hs' : (look x vars).isSome = true := by rw [hx]; rfl
  have hc' : (x == ("__classdict__" : Str)) = false := by simpa using hc
  refine wpAny_Name ?_ hd
  unfold readK at hk
  split at hk
  · rename_i e
    obtain ⟨m, hn, hm⟩ := F.ns
    exact wpAny_loadName_local F.kind (kindOf_kind F.kok e (by decide)) hn (hm x cv e hs' hv) (k cv hv hs)
  · rename_i e
    obtain ⟨c, u, h1, h2, _, h3⟩ := F.cel x (.inl e)
    exact wpAny_loadName_cell F.kind (kindOf_kind F.kok e (by decide)) h1 (h3 cv hs' hv ▸ h2) (k cv hv hs)
  · rename_i e
    obtain ⟨c, u, h1, h2, _, h3⟩ := F.cel x (.inr e)
    rcases F.kok x _ e with e' | ⟨_, e'⟩
    · exact wpAny_loadName_free F.kind e' h1 (h3 cv hs' hv ▸ h2) (k cv hv hs) hc'
    · exact wpAny_loadName_cell F.kind e' h1 (h3 cv hs' hv ▸ h2) (k cv hv hs)
  · cases hk
theorem iterS_any (ih : Snd T hb n) (LF : Leafs) (rm : Room A n) (F : Frame hb sc env pb nb lent vars val s.heap) {target e : Expr} {its : List PV} (hv : (xE T n sc vars e).bind itemsS = some its)
    (E : Value → Shared → Prop) (Q : Value → Shared → Prop) (q : ∀ it s', Pack A s target (forPubs sc env pb nb vars val).p (forPubs sc env pb nb vars val).nw its it s' → Q it s') : wpAny (model prog w) A (eval e env) (fun cv s₁ => wpAny (model prog w) A (pyIter cv) Q E s₁) E s := by
  obtain ⟨⟨p, v⟩, ha, hv⟩ := bnd hv
  cases p with
  | false => exact noS hv
  | true => exact ih.e A sc env vars _ s _ true v rm ha F.reads F.fresh E _ fun cv h1 tk1 st1 r1 => LF.iterV (pub := forPubs sc env pb nb vars val) rm (a := (true, v)) hv (oks_for (r1 _ .P)) fun it s' pk => q it s' (pk.back st1)
theorem step_iterS (ih : Snd T hb n) (G : Glob T hb) (LF : Leafs) : IterSOk T hb (n + 1) := by
  intro A sc env pb nb lent vars val s target tup e its rm hv htup F E Q q
  have rm' := rm.pred
  have q' : ∀ it s', Pack A s target (forPubs sc env pb nb vars val).p (forPubs sc env pb nb vars val).nw its it s' → Q it s' := q
  have hv : zIterSN (zRec T n) sc vars tup e (nameOf e) = some its := hv
  cases hn : nameOf e with
  | some x =>
    rw [hn] at hv
    obtain ⟨xq, rfl⟩ := nameOf_eq hn
    obtain ⟨hk, hv⟩ := onlyIf hv
    obtain ⟨hk1, hk2⟩ := two hk
    obtain ⟨sl, hx, hv⟩ := bnd hv
    obtain ⟨a, ha, hv⟩ := bnd hv
    exact F.name hk1 (notB hk2) hx fun cv hcv hs => LF.iterV rm' hv (nameS_rep F ha hs) q'
  | none =>
  rw [hn] at hv
  have hv : zIterSK (zRec T n) sc vars tup e (iterKind e) = some its := hv
  rcases iterKind_is (e := e) with ⟨f, fq, args, p, he, hk⟩ | ⟨d, dq, name, apos, pos, he, hk⟩ | hk
  · rw [hk] at hv
    obtain ⟨hg, hv⟩ := onlyIf hv
    have hv : (bif isRng (biOf f) then (xEs T n sc vars args).bind (fun as => evalRange (as.map (·.2))) else bif isEnu (biOf f) then (xEs T n sc vars args).bind (zEnumS tup) else (xE T n sc vars e).bind itemsS) = some its := hv
    cases hr : isRng (biOf f) with
    | true =>
      rw [hr] at hv
      obtain ⟨as, has, hv⟩ := bnd hv
      rw [he]
      exact name_call ih G rm' F.reads F.fresh hg (isRng_eq hr) has fun cs h1 tk1 st1 vr => LF.iterRange (pub := forPubs sc env pb nb vars val) rm' hv (vr.all (q := false) (by simp) _ .T) fun it s' pk => q' it s' (pk.back st1)
    | false =>
      rw [hr] at hv
      cases hen : isEnu (biOf f) with
      | true =>
        rw [hen] at hv
        obtain ⟨as, has, hv⟩ := bnd hv
        obtain ⟨v, rfl, ht, hv⟩ := enumS1 hv
        rw [he]
        refine name_call ih G rm' F.reads F.fresh hg (isEnu_eq hen) has fun cs h1 tk1 st1 vr => ?_
        cases vr with | cons r rr =>
        cases rr
        exact LF.iterEnum (a := (true, _)) (pub := forPubs sc env pb nb vars val) rm' hv (htup ht) (oks_for (r _ .P)) fun it s' pk => q' it s' (pk.back st1)
      | false =>
        rw [hen] at hv
        exact iterS_any ih LF rm' F hv E Q q'
  · rw [hk] at hv
    obtain ⟨hk, hv⟩ := onlyIf hv
    obtain ⟨hk, hk2⟩ := two hk
    obtain ⟨hline, hk1⟩ := two hk
    obtain ⟨sl, hx, hv⟩ := bnd hv
    obtain ⟨a, ha, hv⟩ := bnd hv
    rw [he]
    refine meth_call (n := 1) (sc := sc) (vars := vars) (T := T) rfl hline rfl (by decide) (F.name hk1 (notB hk2) hx fun cv hcv hs => ?_)
    obtain ⟨T', id, x1, x2, x3, x4, x5, x6⟩ := LF.view (target := target) (E := E) (Q := Q) rm' hv htup (nameS_rep F ha hs) q'
    exact ⟨T', id, x1, x2, x3, x4, x5, wpAny_items_nil x6⟩
  · rw [hk] at hv
    exact iterS_any ih LF rm' F hv E Q q'
end
end Mine
namespace Mine
open PySem PySem.Calls PyProof.Rows PySem.W PySem.SeqAt
section
variable {T : Tab} {hb h h₀ h' : Heap} {n : Nat} {A : Around} {sc : Scope} {env : Env} {vars : Vars} {pub : Pubs} {pb nb : Addr → Prop} {lent : Addr} {val : Str → Option Value} {s : Shared} {p : Bool} {v : PV}
theorem one_arg {x : Expr} {f : Value} {pos : Pos} {r} {E : Value → Shared → Prop} {Q : Args → Shared → Prop} (hx : xE T n sc vars x = some r) (h : wpAny (model prog w) A (eval x env) (fun c s₁ => Q ⟨[c], []⟩ s₁) E s) :
    (backTo pos (starEach [x] env)).any (·.1) = false ∧ wpAny (model prog w) A (evalArgs f true (backTo pos (starEach [x] env)) []) Q E s := by
  rw [star_of hx [] env]
  exact ⟨rfl, Calls.evalArgs_plain (Calls.spliced_cons (wpAny_mono h (fun c s₁ h₁ => Calls.spliced_nil h₁) fun _ _ e => e))⟩
theorem two_args {x y : Expr} {f : Value} {pos : Pos} {r} {E : Value → Shared → Prop} {Q : Args → Shared → Prop} (hx : xE T n sc vars x = some r) (hy : starEach [y] env = [(false, eval y env)])
    (h : wpAny (model prog w) A (eval x env) (fun c s₁ => wpAny (model prog w) A (eval y env) (fun d s₂ => Q ⟨[c, d], []⟩ s₂) E s₁) E s) :
    (backTo pos (starEach [x, y] env)).any (·.1) = false ∧ wpAny (model prog w) A (evalArgs f true (backTo pos (starEach [x, y] env)) []) Q E s := by
  rw [star_of hx [y] env, hy]
  exact ⟨rfl, Calls.evalArgs_plain (Calls.spliced_cons (wpAny_mono h (fun c s₁ h₁ => Calls.spliced_cons (wpAny_mono h₁ (fun d s₂ h₂ => Calls.spliced_nil h₂) fun _ _ e => e)) fun _ _ e => e))⟩
theorem bi_any (ih : Snd T hb n) (G : Glob T hb) (LF : Leafs) (rm : Room A n) (R : Reads hb sc env pub vars s.heap) (F : ∀ b, s.heap.get? b = none → pub.p b) {b : BI} {x : Expr} {v : PV} (hv : zBIo (zRec T n) sc vars b x = some v) (pos : Pos) :
    Gets A s (callWith pos (biVal b) [] (backTo pos (starEach [x] env)) []) (Oks true pub) v := fun E Q q => by
  obtain ⟨a, ha, hr⟩ := bnd hv
  obtain ⟨hp, ha'⟩ := one_arg (A := A) (s := s) (f := biVal b) (pos := pos) (E := E) (Q := fun a s₁ => wpAny (model prog w) A (call (biVal b) ([] ++ a.pos) a.kw) Q E s₁) ha
    (ih.e A sc env vars pub s x a.1 a.2 rm ha R F E _ fun c1 h1 tk1 st1 r1 => LF.biV (s := { s with heap := h1, toks := tk1 }) rm (G.main (R.stays st1).base) hr (fresh_stays F st1) r1 E Q fun cv h2 tk2 st2 r2 => q cv h2 tk2 (stays_trans st1 st2) r2)
  exact call_bi hp ha'
theorem bi_two (ih : Snd T hb n) (LF : Leafs) (rm : Room A n) (R : Reads hb sc env pub vars s.heap) (F : ∀ b, s.heap.get? b = none → pub.p b) {b : BI} {x y : Expr} {v : PV} (hv : zBI2 (zRec T n) sc vars b x y = some v) (pos : Pos) :
    Gets A s (callWith pos (biVal b) [] (backTo pos (starEach [x, y] env)) []) (Oks true pub) v := fun E Q q => by
  obtain ⟨a, ha, hv⟩ := bnd hv
  obtain ⟨c, hc, hr⟩ := bnd hv
  obtain ⟨hp, ha'⟩ := two_args (A := A) (s := s) (f := biVal b) (pos := pos) (E := E) (Q := fun a s₁ => wpAny (model prog w) A (call (biVal b) ([] ++ a.pos) a.kw) Q E s₁) ha (star_of hc [] env)
    (ih.e A sc env vars pub s x a.1 a.2 rm ha R F E _ fun c1 h1 tk1 st1 r1 => ih.e A sc env vars pub { s with heap := h1, toks := tk1 } y c.1 c.2 rm hc (R.stays st1) (fresh_stays F st1) E _ fun c2 h2 tk2 st2 r2 =>
      LF.bi2 (s := { s with heap := h2, toks := tk2 }) rm hr ((r1 _ .T).stays st2 fun _ x => x) (r2 _ .T) E Q fun cv h3 tk3 st3 r3 => q cv h3 tk3 (stays_trans (stays_trans st1 st2) st3) r3)
  exact call_bi hp ha'
theorem bi_isi (ih : Snd T hb n) (G : Glob T hb) (LF : Leafs) (rm : Room A n) (R : Reads hb sc env pub vars s.heap) (F : ∀ b, s.heap.get? b = none → pub.p b) {x : Expr} {c : Str} {cq : Pos} {v : PV} (hv : zIsi (zRec T n) sc vars c x = some v) (pos : Pos) :
    Gets A s (callWith pos (biVal .isinstance) [] (backTo pos (starEach [x, .Name c cq] env)) []) (Oks true pub) v := fun E Q q => by
  obtain ⟨a, ha, hv⟩ := bnd hv
  obtain ⟨hc, hr⟩ := onlyIf hv
  obtain ⟨hc1, hc2⟩ := two hc
  have hbt : biOf c = some .tuple := by rw [strEq_iff.mp hc1]; decide +kernel
  obtain ⟨hp, ha'⟩ := two_args (A := A) (s := s) (f := biVal .isinstance) (pos := pos) (E := E) (y := .Name c cq) (Q := fun a s₁ => wpAny (model prog w) A (call (biVal .isinstance) ([] ++ a.pos) a.kw) Q E s₁) ha rfl
    (ih.e A sc env vars pub s x a.1 a.2 rm ha R F E _ fun c1 h1 tk1 st1 r1 => load_bi G (R.stays st1) hc2 hbt (by
      show wpAny (model prog w) A (call (.builtin "isinstance") [c1, .type "tuple"]) Q E { s with heap := h1, toks := tk1 }
      exact LF.isi (s := { s with heap := h1, toks := tk1 }) rm hr (r1 _ .T) E Q fun cv h2 tk2 st2 r2 => q cv h2 tk2 (stays_trans st1 st2) r2))
  exact call_bi hp ha'
theorem step_bi (ih : Snd T hb n) (G : Glob T hb) (LF : Leafs) : BIOk T hb (n + 1) := by
  intro A sc env vars pub s b args v rm hv R F pos
  have rm' := rm.pred
  match args with
  | [] => exact noS hv
  | _ :: _ :: _ :: _ => exact noS hv
  | [x, y] =>
    have hv : (bif isIsi b then zIsiN (zRec T n) sc vars x (nameOf y) else zBI2 (zRec T n) sc vars b x y) = some v := hv
    cases hi : isIsi b with
    | false => rw [hi] at hv; exact bi_two ih LF rm' R F hv pos
    | true =>
      rw [hi] at hv
      obtain rfl := isIsi_eq hi
      cases hn : nameOf y with
      | none => rw [hn] at hv; exact noS hv
      | some c =>
        rw [hn] at hv
        obtain ⟨cq, rfl⟩ := nameOf_eq hn
        exact bi_isi ih G LF rm' R F hv pos
  | [x] =>
    have hv : zBI1 (zRec T n) sc vars b x (iterKind x) = some v := hv
    rcases iterKind_is (e := x) with ⟨f, fq, args, fp, he, hk⟩ | ⟨dn, dq, name, apos, vp, he, hk⟩ | hk
    · rw [hk] at hv
      exact bi_any ih G LF rm' R F hv pos
    · rw [hk] at hv
      have hv : (bif isSum b && apos.endLine == vp.line then zBIv (zRec T n) sc vars b dn dq name else zBIo (zRec T n) sc vars b x) = some v := hv
      cases hc : isSum b && apos.endLine == vp.line with
      | false => rw [hc] at hv; exact bi_any ih G LF rm' R F hv pos
      | true =>
        rw [hc] at hv
        obtain ⟨hc1, hline⟩ := two hc
        obtain rfl := isSum_eq hc1
        obtain ⟨a, ha, hv⟩ := bnd hv
        obtain ⟨l, hl, hr⟩ := bnd hv
        subst he
        have star : starEach [Expr.Call (.Attribute (.Name dn dq) name apos) [] [] vp] env = [(false, eval (Expr.Call (.Attribute (.Name dn dq) name apos) [] [] vp) env)] := rfl
        refine fun E Q q => call_bi (by rw [star]; rfl) ?_
        rw [star]
        refine Calls.evalArgs_plain (Calls.spliced_cons (wpAny_mono (view_call (K := fun _ _ _ => True) ih rm' R F hline ha (E := E) (Q := fun cv s₁ => wpAny (model prog w) A (call (.builtin "sum") [cv]) Q E s₁) fun co h1 tk1 st1 r1 => ?_) (fun c s₁ h₁ => Calls.spliced_nil h₁) fun _ _ e => e))
        exact LF.sumV (s := { s with heap := h1, toks := tk1 }) (a := a) rm' hl hr (r1 _ .T) fun cv h2 tk2 st2 r2 => q cv h2 tk2 (stays_trans st1 st2) r2
    · rw [hk] at hv
      exact bi_any ih G LF rm' R F hv pos
end
end Mine
namespace Mine
open PySem PySem.Calls PyProof.Rows PySem.W PySem.SeqAt
section
variable {T : Tab} {hb h h₀ h' : Heap} {n : Nat} {A : Around} {sc : Scope} {env : Env} {vars : Vars} {pub : Pubs} {pb nb : Addr → Prop} {lent : Addr} {val : Str → Option Value} {s : Shared} {p : Bool} {v : PV}
theorem atom_imm {n : Nat} {x : PV} (h : isAtom x = true) : immN (n + 1) x = true := by
  cases x <;> first | rfl | cases h
theorem key_imm {k : PV} (h : keyP k = true) : k.imm = true := by
  unfold PV.imm
  cases k with
  | int => rfl
  | str => rfl
  | tup l =>
    have h' : l.all isAtom = true := h
    show l.all (immN 5) = true
    exact List.all_eq_true.mpr fun x hx => atom_imm (List.all_eq_true.mp h' x hx)
  | _ => cases h
theorem new_notSys {h : Heap} (h3 : h.get? mainGlobals ≠ none) : (h.objs.size == sysModules) = false := by
  cases q : h.get? mainGlobals with
  | none => exact absurd q h3
  | some o =>
    have h4 : mainGlobals < h.objs.size := Heap.lt_size q
    have h5 : (3 : Nat) < h.objs.size := h4
    simp only [beq_eq_false_iff_ne, ne_eq]
    intro e
    have h6 : h.objs.size = 1 := e
    (first | with_reducible exact Nat.le_trans (by assumption) (by decide) | lia | omega)
theorem e_dict0 (G : Glob T hb) (R : Reads hb sc env pub vars s.heap) (F : ∀ b, s.heap.get? b = none → pub.p b) {pos : Pos} : Gets A s (eval (.Dict [] [] pos) env) (Oks true pub) (.dict [] []) := fun E Q q =>
  wpAny_Dict_empty (q _ _ s.toks (stays_push _ _) fun ok o => .dictA [] (Oks.fresh F ok o _ (fresh_none _)) (Heap.DictOf.new s.heap) (new_notSys (G.main R.base)) rfl .nil)
theorem e_dict1 (ih : Snd T hb n) (G : Glob T hb) (LF : Leafs) (rm : Room A n) (R : Reads hb sc env pub vars s.heap) (F : ∀ b, s.heap.get? b = none → pub.p b) {k x : Expr} {pos : Pos} {a b r : Bool × PV}
    (ha : xE T n sc vars k = some a) (hb' : xE T n sc vars x = some b) (hp : pair1 a.2 b.2 = some r) : Gets A s (eval (.Dict [some k] [x] pos) env) (Oks r.1 pub) r.2 := by
  unfold pair1 at hp
  split at hp
  · rename_i hc
    simp only [Bool.and_eq_true] at hc
    cases hp
    have st0 := stays_push s.heap { cls := .type "dict", data := .dict #[] }
    refine fun E Q q => wpAny_Dict_any rfl rfl (by simp) (by simp) ?_
    show wpAny _ _ (eval k env >>= fun kv => holding [kv] (do let y ← eval x env; standAt pos; pure y) >>= fun vv => holding [kv, vv] (pure []) >>= fun l => pure ((kv, vv) :: l)) _ _ _
    refine wpAny_bind (ih.e A sc env vars pub _ k a.1 a.2 rm ha (R.stays st0) (fresh_stays F st0) E _ fun c1 h1 tk1 st1 r1 => ?_)
    refine wpAny_bind (wpAny_holding (wpAny_bind (ih.e A sc env vars pub { s with heap := h1, toks := tk1 } x b.1 b.2 rm hb' ((R.stays st0).stays st1) (fresh_stays (fresh_stays F st0) st1) E _ fun c2 h2 tk2 st2 r2 => wpAny_bind (wpAny_standAt (wpAny_pure ?_)))))
    refine wpAny_bind (wpAny_holding (wpAny_pure (wpAny_pure ?_)))
    have hd0 : VRep (s.heap.push { cls := .type "dict", data := .dict #[] }) (fun b => b = s.heap.objs.size) (.dict [] []) (.ref s.heap.objs.size) := .dictA [] rfl (Heap.DictOf.new s.heap) (new_notSys (G.main R.base)) rfl .nil
    have hd : VRep h2 (fun b => b = s.heap.objs.size) (.dict [] []) (.ref s.heap.objs.size) := hd0.stays (stays_trans st1 st2) fun _ x => x
    unfold storeAll
    rw [List.forIn_cons]
    refine wpAny_bind (wpAny_bind (LF.put (s := { s with heap := h2, toks := tk2 }) (ks' := [a.2]) (vs' := [b.2]) rm hc.1 hc.2 rfl rfl rfl hd ((r1 _ .T).stays st2 fun _ x => x) (r2 _ .T) fun h3 tk3 r3 hs => wpAny_pure ?_).1)
    dsimp only
    rw [List.forIn_nil]
    refine wpAny_pure (q _ h3 tk3 (fun y o e => ?_) fun ok o => r3.weaken fun y e => ?_)
    · have : y ≠ s.heap.objs.size := by rintro rfl; rw [fresh_none] at e; cases e
      exact (hs.2 y this).trans (st2 y o (st1 y o (st0 y o e)))
    · subst e; exact Oks.fresh F ok o _ (fresh_none _)
  · cases hp
theorem e_meth1 (ih : Snd T hb n) (LF : Leafs) (rm : Room A n) (R : Reads hb sc env pub vars s.heap) (F : ∀ b, s.heap.get? b = none → pub.p b) {o x : Expr} {name : Str} {apos pos : Pos} {a b : Bool × PV} {r : PV}
    (hpl : plainBase o = true) (hline : (apos.endLine == pos.line) = true) (ha : xE T n sc vars o = some a) (hb' : xE T n sc vars x = some b) (hr : meth1 name a.2 b.2 = some r) :
    Gets A s (eval (.Call (.Attribute o name apos) [x] [] pos) env) (Oks true pub) r := fun E Q q => by
  have hes : xEs T (n + 2) sc vars [x] = some [b] ∨ True := .inr trivial
  obtain ⟨hp, _⟩ := one_arg (A := A) (s := s) (f := .none) (pos := pos) (E := fun _ _ => True) (Q := fun _ _ => True) hb' (ih.e A sc env vars pub s x b.1 b.2 rm hb' R F _ _ fun _ _ _ _ _ => trivial)
  refine wpAny_Call_method_late (by cases o <;> first | rfl | cases hpl) ?_ hline rfl ?_
  · have : (backTo pos (starEach [x] env)).all (fun x => !x.1) = true := by
      rw [List.all_eq_not_any_not]; simp only [Bool.not_not]; rw [hp]; rfl
    exact few_args this (show 1 < 30 by decide)
  · refine ih.e A sc env vars pub s o a.1 a.2 rm ha R F E _ fun c1 h1 tk1 st1 r1 => ?_
    obtain ⟨T', id, x1, x2, x3, x4, x5, x6⟩ := LF.meth1 (A := A) (s := { s with heap := h1, toks := tk1 }) (pub := pub) rm hr (r1 _ .T)
    refine ⟨T', id, x1, x2, x3, x4, x5, Calls.callWith_builtin hp ?_⟩
    exact (one_arg (n := n) (sc := sc) (vars := vars) (T := T) (f := .builtin id) (pos := pos) (Q := fun a s₁ => wpAny (model prog w) A (call (.builtin id) ([c1] ++ a.pos) a.kw) Q E s₁) hb' (ih.e A sc env vars pub { s with heap := h1, toks := tk1 } x b.1 b.2 rm hb' (R.stays st1) (fresh_stays F st1) E _ fun c2 h2 tk2 st2 r2 =>
      x6 h2 tk2 c2 st2 (r2 _ .T) E Q fun cv h3 tk3 st3 r3 => q cv h3 tk3 (stays_trans (stays_trans st1 st2) st3) r3)).2
theorem e_meth2 (ih : Snd T hb n) (LF : Leafs) (rm : Room A n) (R : Reads hb sc env pub vars s.heap) (F : ∀ b, s.heap.get? b = none → pub.p b) {o x y : Expr} {name : Str} {apos pos : Pos} {a b c : Bool × PV} {r : PV}
    (hpl : plainBase o = true) (hline : (apos.endLine == pos.line) = true) (ha : xE T n sc vars o = some a) (hb' : xE T n sc vars x = some b) (hc : xE T n sc vars y = some c) (hr : meth2 name a.2 b.2 c.2 = some r) :
    Gets A s (eval (.Call (.Attribute o name apos) [x, y] [] pos) env) (Oks true pub) r := fun E Q q => by
  have stars : starEach [x, y] env = [(false, eval x env), (false, eval y env)] := by rw [star_of hb' [y] env, star_of hc [] env]; rfl
  have hp : (backTo pos (starEach [x, y] env)).any (·.1) = false := by rw [stars]; rfl
  refine wpAny_Call_method_late (by cases o <;> first | rfl | cases hpl) ?_ hline rfl ?_
  · have : (backTo pos (starEach [x, y] env)).all (fun x => !x.1) = true := by rw [stars]; rfl
    exact few_args this (show 2 < 30 by decide)
  · refine ih.e A sc env vars pub s o a.1 a.2 rm ha R F E _ fun c1 h1 tk1 st1 r1 => ?_
    obtain ⟨T', id, x1, x2, x3, x4, x5, x6⟩ := LF.meth2 (A := A) (s := { s with heap := h1, toks := tk1 }) (pub := pub) rm hr (r1 _ .T)
    refine ⟨T', id, x1, x2, x3, x4, x5, Calls.callWith_builtin hp ?_⟩
    exact (two_args (n := n) (sc := sc) (vars := vars) (T := T) (f := .builtin id) (pos := pos) (Q := fun a s₁ => wpAny (model prog w) A (call (.builtin id) ([c1] ++ a.pos) a.kw) Q E s₁) hb' (star_of hc [] env) (ih.e A sc env vars pub { s with heap := h1, toks := tk1 } x b.1 b.2 rm hb' (R.stays st1) (fresh_stays F st1) E _ fun c2 h2 tk2 st2 r2 =>
      ih.e A sc env vars pub { s with heap := h2, toks := tk2 } y c.1 c.2 rm hc ((R.stays st1).stays st2) (fresh_stays (fresh_stays F st1) st2) E _ fun c3 h3 tk3 st3 r3 =>
      x6 h3 tk3 c2 c3 (stays_trans st2 st3) ((r2 _ .T).stays st3 fun _ x => x) (r3 _ .T) E Q fun cv h4 tk4 st4 r4 => q cv h4 tk4 (stays_trans (stays_trans (stays_trans st1 st2) st3) st4) r4)).2
theorem args_rep {vs : List (Bool × PV)} {cs : List Value} (r : VsRep h pub vs cs) : ArgsRep h pub (vs.map fun a => slotOf a.1 a.2) cs := by
  induction r with
  | nil => exact .nil
  | @cons p v cv l cs a _ ih =>
    refine .cons ⟨?_, a _ .T, fun e => ?_⟩ ih
    · show ownM (if (p || v.imm) = true then Mode.P else Mode.B) = false
      split <;> rfl
    · have e' : (if (p || v.imm) = true then Mode.P else Mode.B) = .P := e
      split at e'
      · rename_i h
        simp only [Bool.or_eq_true] at h
        rcases h with h | h
        · exact a _ (.inr (.inr ⟨h, rfl⟩))
        · exact imm_any h (a _ .T)
      · cases e'
theorem e_fn (ih : Snd T hb n) (G : Glob T hb) (rm : Room A n) (R : Reads hb sc env pub vars s.heap) (F : ∀ b, s.heap.get? b = none → pub.p b) {f : Str} {q p : Pos} {args : List Expr} {fn : Fn} {vs : List (Bool × PV)} {r : PV}
    (hg : isG sc f = true) (hf : tabLook f T = some fn) (has : xEs T n sc vars args = some vs) (hr : xCall T n fn (vs.map fun a => slotOf a.1 a.2) = some r) :
    Gets A s (eval (.Call (.Name f q) args [] p) env) (Oks true pub) r := fun E Q k => by
  rw [arm_eval_Call_Name']
  refine wpAny_bind (load_fn G R hg hf fun a fa => ?_)
  show wpAny _ _ (callWith p (.ref a) [] (backTo p (starEach args env)) []) _ _ _
  obtain ⟨o, fd, ho, hd, _⟩ := fa.fd
  refine Calls.callWith_function (o := o) (fd := fd) (args_go has (ih.es A sc env vars pub s args vs rm has R F p E _ fun cs h1 tk1 st1 vr => ⟨⟨st1 _ _ (R.base _ _ ho), hd⟩, ?_⟩))
  exact ih.call A fn _ r a { s with heap := h1, toks := tk1 } cs pub rm hr ⟨f, hf⟩ fa (stays_trans R.base st1) (args_rep vr) (fresh_stays F st1) E Q fun cv h2 tk2 st2 r2 => k cv h2 tk2 (stays_trans st1 st2) r2
theorem e_un (ih : Snd T hb n) (rm : Room A n) (R : Reads hb sc env pub vars s.heap) (F : ∀ b, s.heap.get? b = none → pub.p b) {op : UnaryOp} {x : Expr} {pos : Pos} (hv : zUn (zRec T n) sc vars op x = some (p, v)) : Gets A s (eval (.UnaryOp op x pos) env) (Oks p pub) v := by
  cases op with
  | USub =>
    obtain ⟨a, ha, hv⟩ := bnd (show (xE T n sc vars x).bind (fun a => (negP a.2).bind fun v => some (true, v)) = some (p, v) from hv)
    obtain ⟨u, hu, hv⟩ := bnd hv
    cases hv
    exact e_neg ih rm R F ha hu
  | _ => exact noS hv
theorem e_dict (ih : Snd T hb n) (G : Glob T hb) (LF : Leafs) (rm : Room A n) (R : Reads hb sc env pub vars s.heap) (F : ∀ b, s.heap.get? b = none → pub.p b) {ks : List (Option Expr)} {vs : List Expr} {pos : Pos} (hv : zDict (zRec T n) sc vars ks vs = some (p, v)) : Gets A s (eval (.Dict ks vs pos) env) (Oks p pub) v := by
  match ks, vs with
  | [], [] => cases (show some (true, PV.dict [] []) = some (p, v) from hv); exact e_dict0 G R F
  | [], _ :: _ => exact noS hv
  | none :: _, _ => exact noS hv
  | some _ :: _ :: _, _ => exact noS hv
  | [some _], [] => exact noS hv
  | [some _], _ :: _ :: _ => exact noS hv
  | [some k], [y] =>
    obtain ⟨a, ha, hv⟩ := bnd (show (xE T n sc vars k).bind (fun a => (xE T n sc vars y).bind fun b => pair1 a.2 b.2) = some (p, v) from hv)
    obtain ⟨b, hb', hv⟩ := bnd hv
    exact e_dict1 ih G LF rm R F ha hb' hv
theorem comp_is {elt : Expr} {gens : List Comprehension} {csc : Scope} {a : Bool × PV} (h : zComp (zRec T n) sc vars elt gens csc = some a) :
    ∃ t it ifs rest items r, gens = ⟨t, it, ifs, 0⟩ :: rest ∧ compOk sc csc = true ∧ xIter T n sc vars (isTupT t) it = some items ∧ xComp T n csc (within csc.names vars) t ifs rest elt items = some r ∧ szOk r.1.length = true ∧ a = (true, .list r.1) := by
  match gens with
  | [] => exact noS h
  | ⟨t, it, ifs, k⟩ :: rest =>
    obtain ⟨hz, h⟩ := onlyIf (show (bif isZ k then zComp1 (zRec T n) sc vars elt csc t it ifs rest else none) = some a from h)
    obtain rfl := isZ_eq hz
    obtain ⟨hok, h⟩ := onlyIf h
    obtain ⟨items, hi, h⟩ := bnd h
    obtain ⟨r, hr, h⟩ := bnd h
    obtain ⟨hz, h⟩ := onlyIf h
    exact ⟨t, it, ifs, rest, items, r, rfl, hok, hi, hr, hz, (Option.some.inj h).symm⟩
theorem e_slice (ih : Snd T hb n) (rm : Room A n) (R : Reads hb sc env pub vars s.heap) (F : ∀ b, s.heap.get? b = none → pub.p b) {y : Expr} {lo hi st : Option Expr} {sp pos : Pos} (hv : zSlice (zRec T n) sc vars y lo hi st = some (p, v)) : Gets A s (eval (.Subscript y (.Slice lo hi st sp) pos) env) (Oks p pub) v := by
  cases st with
  | none =>
    obtain ⟨a, ha, hv⟩ := bnd (show (xE T n sc vars y).bind (fun a => (xO T n sc vars lo).bind fun l => (xO T n sc vars hi).bind fun h => cutP a l h) = some (p, v) from hv)
    obtain ⟨l, hl, hv⟩ := bnd hv
    obtain ⟨u, hu, hv⟩ := bnd hv
    exact e_cut ih rm R F ha hl hu hv
  | some st =>
    cases lo with
    | some => exact noS hv
    | none =>
      cases hi with
      | some => exact noS hv
      | none =>
        obtain ⟨a, ha, hv⟩ := bnd (show (xE T n sc vars y).bind (fun a => (xE T n sc vars st).bind fun k => revP a k.2) = some (p, v) from hv)
        obtain ⟨k, hk, hv⟩ := bnd hv
        exact e_rev ih rm R F ha hk hv
theorem e_meth (ih : Snd T hb n) (LF : Leafs) (rm : Room A n) (R : Reads hb sc env pub vars s.heap) (F : ∀ b, s.heap.get? b = none → pub.p b) {o : Expr} {name : Str} {apos pos : Pos} {args : List Expr} (hv : zMeth (zRec T n) sc vars o name apos pos args = some (p, v)) :
    Gets A s (eval (.Call (.Attribute o name apos) args [] pos) env) (Oks p pub) v := by
  match args with
  | [] => exact noS hv
  | _ :: _ :: _ :: _ => exact noS hv
  | [x] =>
    obtain ⟨hc, hv⟩ := onlyIf (show (bif plainBase o && apos.endLine == pos.line then zMeth1 (zRec T n) sc vars o x name else none) = some (p, v) from hv)
    obtain ⟨hc1, hc2⟩ := two hc
    obtain ⟨a, ha, hv⟩ := bnd hv
    obtain ⟨b, hb', hv⟩ := bnd hv
    obtain ⟨u, hu, hv⟩ := bnd hv
    cases hv
    exact e_meth1 ih LF rm R F hc1 hc2 ha hb' hu
  | [x, y] =>
    obtain ⟨hc, hv⟩ := onlyIf (show (bif plainBase o && apos.endLine == pos.line then zMeth2 (zRec T n) sc vars o x y name else none) = some (p, v) from hv)
    obtain ⟨hc1, hc2⟩ := two hc
    obtain ⟨a, ha, hv⟩ := bnd hv
    obtain ⟨b, hb', hv⟩ := bnd hv
    obtain ⟨c, hc', hv⟩ := bnd hv
    obtain ⟨u, hu, hv⟩ := bnd hv
    cases hv
    exact e_meth2 ih LF rm R F hc1 hc2 ha hb' hc' hu
theorem e_call (ih : Snd T hb n) (G : Glob T hb) (LF : Leafs) (rm : Room A n) (R : Reads hb sc env pub vars s.heap) (F : ∀ b, s.heap.get? b = none → pub.p b) {f : Expr} {args : List Expr} {kw : List Keyword} {pos : Pos} (hv : zCallE T (zRec T n) sc vars f args kw pos = some (p, v)) :
    Gets A s (eval (.Call f args kw pos) env) (Oks p pub) v := by
  cases kw with
  | cons => exact noS hv
  | nil =>
  have hv : zCallA T (zRec T n) sc vars (attrOf f) f args pos = some (p, v) := hv
  cases ha : attrOf f with
  | some q =>
    rw [ha] at hv
    obtain rfl := attrOf_eq ha
    exact e_meth ih LF rm R F hv
  | none =>
    rw [ha] at hv
    have hv : zCallN T (zRec T n) sc vars (nameOf f) args = some (p, v) := hv
    cases hn : nameOf f with
    | none => rw [hn] at hv; exact noS hv
    | some g =>
      rw [hn] at hv
      obtain ⟨fq, rfl⟩ := nameOf_eq hn
      obtain ⟨hg, hv⟩ := onlyIf hv
      have hv : zFnK T (zRec T n) sc vars g args (biOf g) = some (p, v) := hv
      cases hbi : biOf g with
      | some b =>
        rw [hbi] at hv
        obtain ⟨u, hu, hv⟩ := bnd hv
        cases hv
        refine fun E Q q => ?_
        rw [arm_eval_Call_Name']
        refine wpAny_bind (load_bi G R hg hbi ?_)
        exact ih.bi A sc env vars pub s b _ v rm hu R F _ E Q q
      | none =>
        rw [hbi] at hv
        obtain ⟨fn, hf, hv⟩ := bnd hv
        obtain ⟨as, has, hv⟩ := bnd hv
        obtain ⟨_, hv⟩ := unlessIf hv
        obtain ⟨u, hu, hv⟩ := bnd hv
        cases hv
        exact e_fn ih G rm R F hg hf has hu
theorem step_e (ih : Snd T hb n) (G : Glob T hb) (LF : Leafs) : EOk T hb (n + 1) := by
  intro A sc env vars pub s e p v rm hv R F
  have rm' := rm.pred
  cases e with
  | Constant c _ _ =>
    obtain ⟨u, hu, e⟩ := bnd (show (constV c).bind (fun v => some (true, v)) = some (p, v) from hv)
    cases e
    exact e_const hu
  | Name x _ =>
    obtain ⟨ho, hv⟩ := unlessIf (show (bif oddName x then none else readP (kindIn x sc.names) (look x vars)) = some (p, v) from hv)
    exact e_name R (by rw [ho]; exact nofun) hv
  | BinOp l op r _ =>
    obtain ⟨a, ha, hv⟩ := bnd (show (xE T n sc vars l).bind (fun a => (xE T n sc vars r).bind fun b => (evalBin op a.2 b.2).bind fun v => some ((a.1 || okItems a.2) && (b.1 || okItems b.2), v)) = some (p, v) from hv)
    obtain ⟨b, hb', hv⟩ := bnd hv
    obtain ⟨u, hu, hv⟩ := bnd hv
    cases hv
    exact e_bin ih rm' R F ha hb' hu
  | UnaryOp op x _ => exact e_un ih rm' R F hv
  | BoolOp op es _ =>
    obtain ⟨b, hb', hv⟩ := bnd (show (xBools T n sc vars op es).bind (fun b => some (true, PV.bool b)) = some (p, v) from hv)
    cases hv
    exact ih.bools A sc env vars pub s _ _ b rm' hb' R F _
  | IfExp t a b _ =>
    obtain ⟨c, hc, hv⟩ := bnd (show (xT T n sc vars t).bind (fun c => bif c then xE T n sc vars a else xE T n sc vars b) = some (p, v) from hv)
    exact e_ifexp ih rm' R F hc hv
  | Compare l ops rs _ =>
    obtain ⟨hm, hv⟩ := unlessIf (show (bif lastMarks ops rs then none else (xE T n sc vars l).bind fun a => (xChain T n sc vars a.2 ops rs).bind fun b => some (true, PV.bool b)) = some (p, v) from hv)
    obtain ⟨a, ha, hv⟩ := bnd hv
    obtain ⟨b, hb', hv⟩ := bnd hv
    cases hv
    exact e_cmp ih rm' R F (by rw [hm]; exact nofun) ha hb'
  | Tuple es _ _ =>
    obtain ⟨vs, hvs, hv⟩ := bnd (show (xEs T n sc vars es).bind tupP = some (p, v) from hv)
    exact e_tuple ih rm' R F hvs hv
  | List es _ =>
    obtain ⟨vs, hvs, hv⟩ := bnd (show (xEs T n sc vars es).bind listP = some (p, v) from hv)
    exact e_list ih rm' R F hvs hv
  | Dict ks vs _ => exact e_dict ih G LF rm' R F hv
  | ListComp elt gens scope _ =>
    obtain ⟨t, it, ifs, rest, items, r, rfl, hok, hi, hr, hz, e⟩ := comp_is (show zComp (zRec T n) sc vars elt gens scope = some (p, v) from hv)
    cases e
    exact e_comp ih rm' R F hok hi hr hz
  | Subscript y i _ =>
    have hv : zSubK (zRec T n) sc vars y i (sliceOf i) = some (p, v) := hv
    cases hs : sliceOf i with
    | some q =>
      rw [hs] at hv
      obtain ⟨sp, rfl⟩ := sliceOf_eq hs
      exact e_slice ih rm' R F hv
    | none =>
      rw [hs] at hv
      obtain ⟨a, ha, hv⟩ := bnd hv
      obtain ⟨k, hk, hv⟩ := bnd hv
      obtain ⟨u, hu, hv⟩ := bnd hv
      cases hv
      exact e_sub ih rm' R F ha hk hu
  | Call f args kw pos => exact e_call ih G LF rm' R F hv
  | _ => exact noS hv
end
end Mine
namespace Mine
open PySem PySem.Calls PyProof.Rows PySem.W PySem.SeqAt
section
variable {T : Tab} {hb h h₀ h' : Heap} {n : Nat} {A : Around} {sc : Scope} {env : Env} {vars : Vars} {pub : Pubs} {pb nb : Addr → Prop} {lent : Addr} {val : Str → Option Value} {s : Shared} {p : Bool} {v : PV}
theorem nameOk_parts {x : Str} (h : nameOk sc x = true) : readK sc x = true ∧ oddName x = false := by
  unfold nameOk at h
  simp only [Bool.and_eq_true, Bool.not_eq_true'] at h
  exact h
theorem cont_notTup {v : PV} {a : Addr} {ok : Addr → Prop} (hc : isCont v = true) (r : VRep h ok v (.ref a)) : ∀ o, h.get? a = some o → ¬ isTupObj o := fun o e t => by
  cases r with
  | list _ hl => exact list_notTup hl o e t
  | dictT _ _ hd =>
    obtain ⟨ob, _, _, ho, hx, _⟩ := hd
    rw [e] at ho; cases ho
    have := t.1; rw [hx.1] at this; simp at this
  | dictA _ _ hd =>
    obtain ⟨ob, _, _, ho, hx, _⟩ := hd
    rw [e] at ho; cases ho
    have := t.1; rw [hx.1] at this; simp at this
  | _ => cases hc
theorem Frame.upd {x : Str} {md : Mode} {v v' : PV} {a : Addr} (F : Frame hb sc env pb nb lent vars val h) (hx : look x vars = some (md, v)) (hm : ownM md = true) (ha : val x = some (.ref a)) (hc : isCont v = true)
    (k : ∀ b o, h.get? b = some o → b ≠ a → h'.get? b = some o) (ex : ∀ b, h'.get? b = none → h.get? b = none) (hi : okItems v' = true) (r : VRep h' (fun b => b = a) v' (.ref a)) :
    Frame hb sc env pb nb lent (setV x (md, v') vars) val h' ∧ Adv (Wr sc env vars val) h (Wr sc env (setV x (md, v') vars) val) h' := by
  obtain ⟨cv, hcv, hs⟩ := F.slots x md v hx
  rw [ha] at hcv; cases hcv
  obtain ⟨_, a', e, r0, hna⟩ := hs.own hm
  cases e
  have hca : Cont h a := r0.self_cont (by obtain ⟨i, _⟩ := hs.own hm; exact i) (by rintro l rfl; cases hc)
  have haW : Wr sc env vars val a := .inr (.inr ⟨x, md, v, hx, hm, ha⟩)
  have hwr : ∀ b, Wr sc env (setV x (md, v') vars) val b → Wr sc env vars val b := by
    rintro b (e | e | ⟨y, my, vy, hy, hmy, hv⟩)
    · exact .inl e
    · exact .inr (.inl e)
    · by_cases hyx : y = x
      · subst hyx; rw [ha] at hv; cases hv; exact haW
      · rw [look_isSome hyx] at hy; exact .inr (.inr ⟨y, my, vy, hy, hmy, hv⟩)
  have hnt := cont_notTup hc r0
  have kp : Kp (fun b => b = a) h h' := fun b o e q => by
    by_cases hb' : b = a
    · subst hb'; exact q.elim (fun n => (n rfl).elim) fun t => (hnt o e t).elim
    · exact k b o e hb'
  have hL : env.locals ≠ a := fun e => F.sepL x md v hx hm (by rw [ha, e])
  have hsome : ∀ y, (look y (setV x (md, v') vars)).isSome = true → (look y vars).isSome = true := fun y e => by
    by_cases hyx : y = x
    · subst hyx; rw [hx]; rfl
    · rwa [look_isSome hyx] at e
  have hold : ∀ y my vy, look y (setV x (md, v') vars) = some (my, vy) → ∃ vy', look y vars = some (my, vy') := fun y my vy hy => by
    by_cases hyx : y = x
    · subst hyx; rw [look_setV, if_pos rfl] at hy; cases hy; exact ⟨v, hx⟩
    · rw [look_isSome hyx] at hy; exact ⟨vy, hy⟩
  refine ⟨{
    base := fun b o e => k b o (F.base b o e) (by rintro rfl; rw [F.old _ haW] at e; cases e)
    glob := F.glob
    blt := F.blt
    kind := F.kind
    kok := F.kok
    ns := let ⟨m, hn, q⟩ := F.ns; ⟨m, hn.at' fun o e => k _ o e hL, fun y u h1 h2 h3 => q y u h1 (hsome y h2) h3⟩
    cel := fun y hy => let ⟨c, u, h1, h2, h3, h4⟩ := F.cel y hy; ⟨c, u, h1, cell_at h2 fun o e => k _ o e (by rintro rfl; exact cell_cont h2 hca), h3, fun z q1 q2 => h4 z (hsome y q1) q2⟩
    apart := F.apart
    slots := fun y my vy hy => by
      by_cases hyx : y = x
      · subst hyx
        rw [look_setV, if_pos rfl] at hy; cases hy
        refine ⟨_, ha, ?_⟩
        cases md with
        | O => obtain ⟨_, b, e, _, hp, hn⟩ := hs; cases e; exact ⟨hi, _, rfl, r, hp, hn⟩
        | M => obtain ⟨_, e, _, hn⟩ := hs; cases e; exact ⟨hi, rfl, r, hn⟩
        | P => cases hm
        | B => cases hm
      · rw [look_isSome hyx] at hy
        obtain ⟨cy, h1, h2⟩ := F.slots y my vy hy
        refine ⟨cy, h1, h2.move kp (fun b _ hnb hw => ⟨fun e => hw (by rw [e]; exact haW), hnb, fun q => hw (hwr b q)⟩) fun hmy b e hnb _ => ⟨fun e' => ?_, hnb⟩⟩
        subst e'; subst e
        exact hyx (F.own1 y x my vy md v b hy hmy hx hm h1 ha)
    own1 := fun y z my vy mz vz b hy hmy hz hmz h1 h2 => by
      obtain ⟨vy', hy'⟩ := hold y my vy hy
      obtain ⟨vz', hz'⟩ := hold z mz vz hz
      exact F.own1 y z my vy' mz vz' b hy' hmy hz' hmz h1 h2
    sepL := fun y my vy hy hmy => by
      obtain ⟨vy', hy'⟩ := hold y my vy hy
      exact F.sepL y my vy' hy' hmy
    nbL := F.nbL
    old := fun b e => F.old b (hwr b e)
    pbf := fun b e => F.pbf b (ex b e)
    nbf := fun b e => F.nbf b (ex b e) }, ⟨kp.mono fun b e => by rw [e]; exact haW, fun b e => .inl (ex b e), fun b e => .inl (hwr b e)⟩⟩
theorem After.next {W₀ : Addr → Prop} {vars' : Vars} {val' : Str → Option Value} {tk' : Nat} (F : Frame hb sc env pb nb lent vars' val' h') (a : Adv W₀ s.heap (Wr sc env vars' val') h') : After hb sc env pb nb lent W₀ s (.next vars') .next { s with heap := h', toks := tk' } := ⟨h', tk', rfl, rfl, val', F, a⟩
theorem own_look {d : Str} {s : Mode × PV} {u : PV} (hl : look d vars = some s) (ho : ownV s = some u) : look d vars = some (.O, u) := hl.trans (congrArg some (ownV_eq ho))
theorem ownedName_is {e : Expr} {v : PV} (h : ownedName e vars = some v) : ∃ x q, e = .Name x q ∧ look x vars = some (.O, v) := by
  obtain ⟨x, hn, h⟩ := bnd h
  obtain ⟨s, hl, h⟩ := bnd h
  obtain ⟨q, hq⟩ := nameOf_eq hn
  exact ⟨x, q, hq, own_look hl h⟩
theorem s_ret (ih : Snd T hb n) (rm : Room A n) {e : Expr} {pos : Pos} {r : Res} (F : Frame hb sc env pb nb lent vars val s.heap)
    (hv : zRetK (zRec T n) sc vars e (ownedName e vars) = some r) (E : Value → Shared → Prop) (Q : Flow → Shared → Prop)
    (q : ∀ f s', After hb sc env pb nb lent (Wr sc env vars val) s r f s' → Q f s') : wpAny (model prog w) A (exec (.Return (some e) pos) env) Q E s := by
  refine wpAny_Return_some ?_
  cases ho : ownedName e vars with
  | some v =>
    rw [ho] at hv
    obtain ⟨x, px, rfl, hx⟩ := ownedName_is ho
    obtain ⟨hk, hv⟩ := onlyIf hv
    cases hv
    obtain ⟨k1, k2⟩ := nameOk_parts hk
    refine F.name k1 k2 hx fun cv hcv hs => ?_
    obtain ⟨hi, a, rfl, r, hp, hn⟩ := hs
    exact q _ _ ⟨s.heap, s.toks, rfl, _, rfl, r.weaken fun _ _ => trivial, r.weaken fun b e => e ▸ hp, Kp.refl _ _, fun _ x => .inl x⟩
  | none =>
    rw [ho] at hv
    obtain ⟨⟨p, a⟩, ha, hv⟩ := bnd hv
    obtain ⟨v, hv', hv⟩ := bnd hv
    cases hv
    cases p with
    | false => exact noS hv'
    | true =>
      cases (show some a = some v from hv')
      refine ih.e A sc env vars _ s e true a rm ha F.reads F.fresh E _ fun cv h1 tk1 st1 r1 => ?_
      exact q _ _ ⟨h1, tk1, rfl, cv, rfl, r1 _ .T, VRep.weaken (fun b o => o.1.1) (r1 _ .P), Kp.of_stays st1, fun _ e => .inl (none_of_stays st1 e)⟩
theorem NewSlot.get {s1 : Heap} {md : Mode} {v : PV} {cv : Value} (F : Frame hb sc env pb nb lent vars val h₀) (st : h₀.StaysIn s1) (g : SlotGot h₀ s1 (frPubs sc env pb nb vars val).p md v cv) :
    ∃ nb₀ : Addr → Prop, (∀ a, nb₀ a → nb a) ∧ Frame hb sc env pb nb₀ lent vars val s1 ∧ NewSlot hb s1 pb nb nb₀ (Wr sc env vars val) md v cv ∧ ∀ a, md = .O → cv = .ref a → h₀.get? a = none := by
  rcases g with ⟨rfl, r⟩ | ⟨rfl, hi, a, rfl, r, hn⟩
  · exact ⟨nb, fun _ x => x, F.stays st, .inl ⟨rfl, r⟩, fun a e => by cases e⟩
  · refine ⟨fun b => nb b ∧ b ≠ a, fun _ x => x.1, F.narrow st (fun b x y => ⟨x, fun e => y (e ▸ hn)⟩) fun b e => ⟨F.nbf b (none_of_stays st e), fun q => r.ref_some.some (q ▸ e)⟩, .inr ⟨rfl, hi, a, rfl, r, F.pbf a hn, F.nbf a hn, fun o => o.2 rfl, none_of_stays F.base hn⟩, fun b _ e => by cases e; exact hn⟩
theorem s_assign1 (ih : Snd T hb n) (rm : Room A n) {x : Str} {e : Expr} {px pos : Pos} {sl : Mode × PV} (F : Frame hb sc env pb nb lent vars val s.heap) (hx : ownK sc x = true) (hs : xSlot T n sc vars e = some sl)
    (hsw : swapsWith e (some (.Name x px)) pos.line env = pure false) (E : Value → Shared → Prop) (Q : Flow → Shared → Prop)
    (q : ∀ f s', After hb sc env pb nb lent (Wr sc env vars val) s (.next (setV x sl vars)) f s' → Q f s') : wpAny (model prog w) A (exec (.Assign [.Name x px] e pos) env) Q E s := by
  obtain ⟨md, v⟩ := sl
  refine wpAny_Assign_Name (ih.slot A sc env vars _ s e md v rm hs F.reads F.fresh E _ fun cv h1 tk1 st1 g => ?_) hsw
  obtain ⟨nb₀, h2, F1, hsl, hfr⟩ := NewSlot.get F st1 g
  refine F1.store (s := { s with heap := h1, toks := tk1 }) hx h2 hsl fun h3 tk3 F3 k3 ex3 => q _ _ (.next F3 ⟨(Kp.of_stays st1).trans k3, fun a e => .inl (none_of_stays st1 (ex3 a e)), fun a e => ?_⟩)
  exact (Frame.set_wr hsl a e).imp id fun o => hfr a o.1 o.2
theorem putD2_ok {k v : PV} : ∀ {ks vs : List PV} {r : List PV × List PV}, PV.imms ks = true → PV.imms vs = true → k.imm = true → v.imm = true → putD2 k v ks vs = some r → PV.imms r.1 = true ∧ PV.imms r.2 = true
  | [], vs, r, _, _, hk, hv, e => by
    cases (show some ([k], [v]) = some r from e)
    exact ⟨Bool.and_eq_true_iff.mpr ⟨hk, rfl⟩, Bool.and_eq_true_iff.mpr ⟨hv, rfl⟩⟩
  | y :: ks, vs, r, h1, h2, hk, hv, e => by
    obtain ⟨hy, h1⟩ := two (show (y.imm && PV.imms ks) = true from h1)
    have ht : PV.imms vs.tail = true := by
      cases vs with
      | nil => rfl
      | cons z zs => exact (two h2).2
    have e : (match PV.eq y k with | some true => some (y :: ks, v :: vs.tail) | some false => (putD2 k v ks vs.tail).map fun p => (y :: p.1, vs.head?.toList ++ p.2) | none => none) = some r := e
    cases hq : PV.eq y k with
    | none => rw [hq] at e; exact noS e
    | some c =>
      rw [hq] at e
      cases c with
      | true => cases e; exact ⟨Bool.and_eq_true_iff.mpr ⟨hy, h1⟩, Bool.and_eq_true_iff.mpr ⟨hv, ht⟩⟩
      | false =>
        obtain ⟨p, hp, e⟩ := Option.map_eq_some_iff.mp e
        subst e
        obtain ⟨i1, i2⟩ := putD2_ok (ks := ks) h1 ht hk hv hp
        refine ⟨Bool.and_eq_true_iff.mpr ⟨hy, i1⟩, ?_⟩
        cases vs with
        | nil => exact i2
        | cons z zs => exact Bool.and_eq_true_iff.mpr ⟨(two h2).1, i2⟩
theorem put_ok {k v : PV} {ks vs : List PV} {r : List PV × List PV} (hi : okItems (.dict ks vs) = true) (hk : k.imm = true) (hv : v.imm = true) (e : putD2 k v ks vs = some r) : okItems (.dict r.1 r.2) = true := by
  have h := Bool.and_eq_true_iff.mp hi
  obtain ⟨a, b⟩ := putD2_ok h.1 h.2 hk hv e
  exact Bool.and_eq_true_iff.mpr ⟨a, b⟩
theorem s_put (ih : Snd T hb n) (LF : Leafs) (rm : Room A n) {d : Str} {e i : Expr} {dp sp pos : Pos} {a k : Bool × PV} {vars' : Vars} (F : Frame hb sc env pb nb lent vars val s.heap) (hd : nameOk sc d = true)
    (ha : xE T n sc vars e = some a) (hk : xE T n sc vars i = some k) (hv : storeP d k.2 a.2 vars = some vars') (E : Value → Shared → Prop) (Q : Flow → Shared → Prop)
    (q : ∀ f s', After hb sc env pb nb lent (Wr sc env vars val) s (.next vars') f s' → Q f s') : wpAny (model prog w) A (exec (.Assign [.Subscript (.Name d dp) i sp] e pos) env) Q E s := by
  obtain ⟨k1, k2⟩ := nameOk_parts hd
  refine wpAny_Assign_Subscript ?_ (by cases e <;> rfl)
  refine ih.e A sc env vars _ s e a.1 a.2 rm ha F.reads F.fresh E _ fun c1 h1 tk1 st1 r1 => ?_
  have F1 := F.stays st1
  obtain ⟨s0, hl0, hv⟩ := bnd hv
  obtain ⟨u, hou, hv⟩ := bnd hv
  have hx := own_look hl0 hou
  refine F1.name (s := { s with heap := h1, toks := tk1 }) k1 k2 hx fun co hco hs => ?_
  refine ih.e A sc env vars _ { s with heap := h1, toks := tk1 } i k.1 k.2 rm hk F1.reads F1.fresh E _ fun c2 h2 tk2 st2 r2 => ?_
  obtain ⟨hi, x, rfl, r, _, _⟩ := hs
  have r0 : VRep h2 (fun b => b = x) u (.ref x) := r.stays st2 fun _ x => x
  have ra : VRep h2 (fun _ => True) a.2 c1 := (r1 _ .T).stays st2 fun _ x => x
  have fin : ∀ v' h3 tk3, isCont u = true → okItems v' = true → VRep h3 (fun b => b = x) v' (.ref x) → Heap.SameBut x h2 h3 → some (setV d (.O, v') vars) = some vars' → Q .next { s with heap := h3, toks := tk3 } := fun v' h3 tk3 hc hi' r3 hs3 hv => by
    cases hv
    obtain ⟨F3, adv3⟩ := (F1.stays st2).upd (v' := v') hx rfl hco hc (fun b o e ne => (hs3.2 b ne).trans e) (sameBut_ex hs3 r3.ref_some.some) hi' r3
    exact q _ _ (.next F3 ((Adv.stays (stays_trans st1 st2)).trans adv3))
  cases u with
  | dict ks vs =>
    obtain ⟨hc, hv⟩ := onlyIf (show (bif keyP k.2 && a.2.imm && szOk ks.length then (putD2 k.2 a.2 ks vs).bind fun p => some (setV d (.O, .dict p.1 p.2) vars) else none) = some vars' from hv)
    obtain ⟨hc, hc3⟩ := two hc
    obtain ⟨hc1, hc2⟩ := two hc
    obtain ⟨kv, hkv, hv⟩ := bnd hv
    exact (LF.put (A := A) (s := { s with heap := h2, toks := tk2 }) rm hc1 hc2 hc3 hkv hi r0 (r2 _ .T) ra fun h3 tk3 r3 hs3 => fin _ h3 tk3 rfl (put_ok hi (key_imm hc1) hc2 hkv) r3 hs3 hv).2
  | _ => exact noS hv
end
end Mine
namespace Mine
open PySem PySem.Calls PyProof.Rows PySem.W PySem.SeqAt
section
variable {T : Tab} {hb h h₀ h' : Heap} {n : Nat} {A : Around} {sc : Scope} {env : Env} {vars : Vars} {pub : Pubs} {pb nb : Addr → Prop} {lent : Addr} {val : Str → Option Value} {s : Shared} {p : Bool} {v : PV}
theorem s_assignC (ih : Snd T hb n) (rm : Room A n) {x : Str} {elt t it : Expr} {ifs : List Expr} {rest : List Comprehension} {scope : Scope} {cp px pos : Pos} {items : List PV} {r : List PV × Vars} (F : Frame hb sc env pb nb lent vars val s.heap) (hx : ownK sc x = true)
    (hok : compOk sc scope = true) (hi : xIter T n sc vars (isTupT t) it = some items) (hc : xComp T n scope (within scope.names vars) t ifs rest elt items = some r) (hz : szOk r.1.length = true)
    (hsw : swapsWith (.ListComp elt (⟨t, it, ifs, 0⟩ :: rest) scope cp) (some (.Name x px)) pos.line env = pure true) (E : Value → Shared → Prop) (Q : Flow → Shared → Prop)
    (q : ∀ f s', After hb sc env pb nb lent (Wr sc env vars val) s (.next (setV x (.P, .list r.1) vars)) f s' → Q f s') : wpAny (model prog w) A (exec (.Assign [.Name x px] (.ListComp elt (⟨t, it, ifs, 0⟩ :: rest) scope cp) pos) env) Q E s := by
  rw [exec_Assign_Name_used _ _ _ _ hsw]
  refine wpAny_bind (wpAny_standAt (wpAny_bind ?_))
  show wpAny _ A (do let _ ← comprehension (.ListComp elt (⟨t, it, ifs, 0⟩ :: rest) scope cp) scope env (firstIterPos (⟨t, it, ifs, 0⟩ :: rest) cp) (newList []) false (eval it env) (some (assign (.Name x px) env))) _ _ s
  refine wpAny_bind (wpAny_mono (comp_run ih rm (use := some (assign (.Name x px) env)) (Q := fun _ s' => Q .next s') F.reads F.fresh hok hi hc hz fun C D h1 tk1 m st hD hC hm rp => ?_) (fun _ s' hq => wpAny_pure (wpAny_pure hq)) fun _ _ e => e)
  show wpAny _ A (assign (.Name x px) env (.ref D)) _ _ _
  have hC1 : h1.get? C ≠ none := (ns_mut hm).some
  have F1 : Frame hb sc env pb (fun a => nb a ∧ a ≠ C) lent vars val h1 := F.narrow st (fun a e ne => ⟨e, fun q => ne (q ▸ hC)⟩) fun a e => ⟨F.nbf a (none_of_stays st e), fun q => hC1 (q ▸ e)⟩
  refine wpAny_assign_Name (F1.storeP (s := { s with heap := h1, toks := tk1 }) hx rp (fun a o => ⟨⟨o.1.1.1, o.1.1.2, o.2⟩, o.1.2⟩) fun h2 tk2 F2 adv2 hw2 => ?_)
  have hm2 : h2.Ns C m := hm.at' fun o e => adv2.kp C o e (.inl fun y => (F1.wr_nb y).2 rfl)
  refine ⟨m, hm2, fun h3 hs3 => ?_⟩
  have kp3 := kp_sameBut hs3 (ns_mut hm2) (ns_notTup hm2)
  have ex3 : ∀ a, h3.get? a = none → a = C ∨ h2.get? a = none := fun a e => by
    by_cases hac : a = C
    · exact .inl hac
    · exact .inr (by rw [← hs3.2 a hac]; exact e)
  have F3 : Frame hb sc env pb nb lent (setV x (.P, .list r.1) vars) (setF val x (.ref D)) h3 := F2.move' kp3 (fun a e => .inr (by subst e; exact fun q => q.2 rfl)) (fun a e => (ex3 a e).elim (fun x => F.pbf a (x ▸ hC)) (F2.pbf a)) (fun a e => by rw [e]; exact none_of_stays F.base hC) (fun a e _ => e.1) fun a e => (ex3 a e).elim (fun x => F.nbf a (x ▸ hC)) fun x => (F2.nbf a x).1
  refine q _ _ (.next F3 ⟨fun a o e c => ?_, fun a e => (ex3 a e).elim (fun x => .inl (x ▸ hC)) fun x => (adv2.ex a x).imp (none_of_stays st) id, fun a e => .inl (hw2 a e)⟩)
  have hac : a ≠ C := by rintro rfl; rw [hC] at e; cases e
  exact (hs3.2 a hac).trans (adv2.kp a o (st a o e) c)
theorem s_augsub (ih : Snd T hb n) (LF : Leafs) (rm : Room A n) {d x : Str} {op : Operator} {e : Expr} {dp xp sp pos : Pos} {k a : Bool × PV} {vars' : Vars} (F : Frame hb sc env pb nb lent vars val s.heap) (hd : nameOk sc d = true)
    (hk : xE T n sc vars (.Name x xp) = some k) (ha : xE T n sc vars e = some a) (hv : augP d k.2 op a.2 vars = some vars') (E : Value → Shared → Prop) (Q : Flow → Shared → Prop)
    (q : ∀ f s', After hb sc env pb nb lent (Wr sc env vars val) s (.next vars') f s' → Q f s') : wpAny (model prog w) A (exec (.AugAssign (.Subscript (.Name d dp) (.Name x xp) sp) op e pos) env) Q E s := by
  obtain ⟨k1, k2⟩ := nameOk_parts hd
  obtain ⟨s0, hl0, hv⟩ := bnd hv
  obtain ⟨u0, hou, hv⟩ := bnd hv
  obtain ⟨⟨ks, vs⟩, hdu, hv⟩ := bnd hv
  have hx : look d vars = some (.O, .dict ks vs) := by rw [own_look hl0 hou, dictL2_eq hdu]
  obtain ⟨j, hj, hv⟩ := bnd hv
  obtain ⟨hc, hv⟩ := onlyIf hv
  obtain ⟨hc1, hc2⟩ := two hc
  obtain ⟨o, hg, hv⟩ := bnd hv
  obtain ⟨u, rfl, hv2⟩ := bnd hv
  obtain ⟨r, hr, hv2⟩ := bnd hv2
  obtain ⟨kv, hkv, hv2⟩ := bnd hv2
  cases hv2
  obtain ⟨i', j', e1, e2, rfl, e3⟩ := aug_some hr
  cases e2
  refine PySem.wpAny_AugAssign_Subscript (F.name k1 k2 hx fun co hco hs => ?_)
  refine ih.e A sc env vars _ s _ k.1 k.2 rm hk F.reads F.fresh E _ fun c1 h1 tk1 st1 r1 => ?_
  obtain ⟨hi, y, rfl, r0, _, _⟩ := hs
  have hu : A.units + 1 < cLine := by have := rm.u; (first | with_reducible exact Nat.le_trans (by assumption) (by decide) | lia | omega)
  have gd := (getItem_dict_sound (A := A) (s := { s with heap := h1, toks := tk1 }) (Ok := fun ok => ok = fun _ => True) hu rfl (fun ok o => by subst o; exact (r0.stays st1 fun _ x => x).weaken fun _ _ => trivial) hc1 (r1 _ .T) hg).1
  refine gd E _ fun c2 h2 tk2 st2 r2 => ?_
  have F2 := (F.stays st1).stays st2
  refine ih.e A sc env vars _ { s with heap := h2, toks := tk2 } e a.1 a.2 rm ha F2.reads F2.fresh E _ fun c3 h3 tk3 st3 r3 => ?_
  have r2' := r2 _ rfl
  rw [e1] at r2'
  have r3' := r3 _ .T
  rw [intP_eq hj] at r3'
  obtain ⟨t1, rfl⟩ := r2'.int_inv
  obtain ⟨t2, rfl⟩ := r3'.int_inv
  refine PySem.AutoIntOps.iadd_0 ?_
  have stt : s.heap.StaysIn h3 := stays_trans (stays_trans st1 st2) st3
  rw [e3] at hkv
  have himm : (PV.int (i' + j)).imm = true := rfl
  have pt := LF.put (A := A) (n := n) (s := { s with heap := h3, toks := tk3 + 1 }) (ks := ks) (vs := vs) (ks' := kv.1) (vs' := kv.2) (k := k.2) (v := .int (i' + j)) (d := y) (ck := c1) (cv := .int (i' + j) tk3) (E := E) (Q := fun _ s' => Q .next s') rm hc1 himm hc2 hkv hi (r0.stays stt fun _ x => x) ((r1 _ .T).stays (stays_trans st2 st3) fun _ x => x) (.int _ _)
  refine (pt fun h4 tk4 r4 hs4 => ?_).2
  obtain ⟨F4, adv4⟩ := (F2.stays st3).upd (v' := .dict kv.1 kv.2) hx rfl hco rfl (fun b o e ne => (hs4.2 b ne).trans e) (sameBut_ex hs4 r4.ref_some.some) (put_ok hi (key_imm hc1) himm hkv) r4
  exact q _ _ (.next F4 ((Adv.stays stt).trans adv4))
theorem int_of (h : env.scope.kind = .function) : interactive env = false := by unfold interactive; rw [h]; rfl
theorem methL_ok {m : Str} {as l l' : List PV} (hi : okItems (.list l) = true) (e : methL m as l = some l') : okItems (.list l') = true := by
  have h : ∀ x ∈ l, x.imm = true := List.all_eq_true.mp hi
  refine List.all_eq_true.mpr fun x hx => ?_
  obtain ⟨_, e⟩ := methL_is e
  obtain ⟨i, v, _, hv, _, _, _, rfl⟩ := insL_is e
  rcases List.mem_append.mp hx with hx | hx
  · exact h x (List.mem_of_mem_take hx)
  · rcases List.mem_cons.mp hx with rfl | hx
    · exact hv
    · exact h x (List.mem_of_mem_drop hx)
theorem s_meth (ih : Snd T hb n) (LF : Leafs) (rm : Room A n) {d m : Str} {args : List Expr} {dp apos pos epos : Pos} {as : List (Bool × PV)} {vars' : Vars} (F : Frame hb sc env pb nb lent vars val s.heap) (hd : nameOk sc d = true) (hline : (apos.endLine == pos.line) = true) (hfew : args.length < 30)
    (has : xEs T n sc vars args = some as) (hv : methP d m (as.map (·.2)) vars = some vars') (E : Value → Shared → Prop) (Q : Flow → Shared → Prop)
    (q : ∀ f s', After hb sc env pb nb lent (Wr sc env vars val) s (.next vars') f s' → Q f s') : wpAny (model prog w) A (exec (.Expr (.Call (.Attribute (.Name d dp) m apos) args [] pos) epos) env) Q E s := by
  obtain ⟨k1, k2⟩ := nameOk_parts hd
  obtain ⟨⟨md, u⟩, hl0, hv⟩ := bnd hv
  obtain ⟨l, hlu, hv⟩ := bnd hv
  have hx : look d vars = some (md, .list l) := by rw [hl0]; exact congrArg (fun u => some (md, u)) (listL_eq hlu)
  obtain ⟨hm, hv⟩ := onlyIf hv
  obtain ⟨l', hl', hv⟩ := bnd hv
  cases hv
  refine wpAny_Expr (meth_call (n := n) (sc := sc) (vars := vars) (T := T) rfl hline has hfew (F.name k1 k2 hx fun co hco hs => ?_)) (int_of F.kind) rfl
  obtain ⟨hi, y, rfl, r0, _⟩ := hs.own hm
  obtain ⟨T', id, x1, x2, x3, x4, x5, x6⟩ := LF.lmeth (A := A) (s := s) rm hl' hi r0
  refine ⟨T', id, x1, x2, x3, x4, x5, ih.es A sc env vars _ s args as rm has F.reads F.fresh pos E _ fun cs h1 tk1 st1 vr => ?_⟩
  refine x6 h1 tk1 cs _ E _ st1 vr fun h2 tk2 r2 hs2 => ?_
  obtain ⟨F2, adv2⟩ := (F.stays st1).upd (v' := .list l') hx hm hco rfl (fun b o e ne => (hs2.2 b ne).trans e) (sameBut_ex hs2 r2.ref_some.some) (methL_ok hi hl') r2
  exact q _ _ (.next F2 ((Adv.stays st1).trans adv2))
end
end Mine
namespace Mine
open PySem PySem.Calls PyProof.Rows PySem.W PySem.SeqAt
section
variable {T : Tab} {hb h h₀ h' : Heap} {n : Nat} {A : Around} {sc : Scope} {env : Env} {vars : Vars} {pub : Pubs} {pb nb : Addr → Prop} {lent : Addr} {val : Str → Option Value} {s : Shared} {p : Bool} {v : PV}
theorem all_handed {vs : List (Bool × PV)} {cs : List Value} {la : Addr} (r : VsRep h pub vs cs) (ha : vs.all (·.1) = true) : ArgsF (Handed h pub.p la) (vs.map fun a => (.P, a.2)) cs := by
  induction r with
  | nil => exact .nil
  | @cons p v cv l cs a _ ih =>
    simp only [List.all_cons, Bool.and_eq_true] at ha
    refine .cons ?_ (ih ha.2)
    have hp : p = true := ha.1
    exact a _ (.inr (.inr ⟨hp, rfl⟩))
theorem s_insort (ih : Snd T hb n) (G : Glob T hb) (rm : Room A (n + 1)) {f d : Str} {fq dp pos epos : Pos} {args : List Expr} {fn : Fn} {as : List (Bool × PV)} {u : PV} {vars2 vars' : Vars} {r : Res} (F : Frame hb sc env pb nb lent vars val s.heap)
    (hg : isG sc f = true) (hd : nameOk sc d = true) (hf : tabLook f T = some fn) (has : xEs T n sc vars args = some as) (ho : ownedName (.Name d dp) vars = some u) (hall : as.all (·.1) = true) (hcont : isCont u = true)
    (hb' : bindArgsV fn.params ((.M, u) :: as.map fun a => (.P, a.2)) fn.dflts = some vars2) (hr : xSs T n fn.scope vars2 fn.body = some r) (hbk : backP d fn.params r vars = some vars') (E : Value → Shared → Prop) (Q : Flow → Shared → Prop)
    (q : ∀ f s', After hb sc env pb nb lent (Wr sc env vars val) s (.next vars') f s' → Q f s') : wpAny (model prog w) A (exec (.Expr (.Call (.Name f fq) (.Name d dp :: args) [] pos) epos) env) Q E s := by
  obtain ⟨k1, k2⟩ := nameOk_parts hd
  have hx : look d vars = some (.O, u) := by
    obtain ⟨x, q, e, hx⟩ := ownedName_is ho
    cases e; exact hx
  refine wpAny_Expr ?_ (int_of F.kind) rfl
  rw [arm_eval_Call_Name']
  refine wpAny_bind (load_fn G F.reads hg hf fun a fa => ?_)
  show wpAny _ _ (callWith pos (.ref a) [] (backTo pos (starEach (.Name d dp :: args) env)) []) _ _ _
  have star : starEach (.Name d dp :: args) env = (false, eval (.Name d dp) env) :: starEach args env := rfl
  obtain ⟨o, fd, hoa, hda, _⟩ := fa.fd
  rw [star]
  refine Calls.callWith_function (o := o) (fd := fd) (Calls.evalArgs_plain (Calls.spliced_cons (F.name k1 k2 hx fun co hco hs => ?_)))
  obtain ⟨hi, la, rfl, r0, hpla, hnla⟩ := hs
  refine ih.es A sc env vars _ s args as rm.pred has F.reads F.fresh pos E _ fun cs h1 tk1 st1 vr => ⟨⟨st1 _ _ (F.base _ _ hoa), hda⟩, ?_⟩
  have F1 := F.stays st1
  have laW : Wr sc env vars val la := .inr (.inr ⟨d, .O, u, hx, rfl, hco⟩)
  -- the callee's names: the first alone is lent
  obtain ⟨p0, ps, rest, hps, hv2, hrest⟩ : ∃ p0 ps rest, fn.params = p0 :: ps ∧ vars2 = (p0, .M, u) :: rest ∧ ∀ y md v, (y, md, v) ∈ rest → md = .P := by
    cases hpar : fn.params with
    | nil => rw [hpar] at hb'; exact noS hb'
    | cons p0 ps =>
      rw [hpar] at hb'
      obtain ⟨rest, hre, e⟩ := Option.map_eq_some_iff.mp (show (bindArgsV ps (as.map fun a => (.P, a.2)) (dropD p0 fn.dflts)).map ((p0, .M, u) :: ·) = some vars2 from hb')
      refine ⟨p0, ps, rest, rfl, e.symm, fun y md v hy => ?_⟩
      rcases bindArgs_modes hre y md v hy with e | hm
      · exact e
      · obtain ⟨b, _, e⟩ := List.mem_map.mp hm; cases e; rfl
  have onlyM : ∀ y md v, (y, md, v) ∈ vars2 → ownM md = true → y = p0 := fun y md v hy hm => by
    rw [hv2] at hy
    rcases List.mem_cons.mp hy with e | hy
    · cases e; rfl
    · rw [hrest y md v hy] at hm; cases hm
  refine call_enter (s := { s with heap := h1, toks := tk1 }) (pub := (frPubs sc env pb nb vars val).p) (lent := la) ih rm fa G.nolimit F1.base F1.fresh hb' hr (.cons ⟨hi, rfl, r0.stays st1 fun _ x => x⟩ (all_handed vr hall))
    (fun y md v _ _ => ⟨F.old la laW, (r0.stays st1 fun _ x => x).ref_some.some⟩) (fun y z my vy mz vz hy hz hmy hmz => (onlyM y my vy hy hmy).trans (onlyM z mz vz hz hmz).symm) (.inl fun o => o.2 laW) fun cv h2 tk2 kp ex ends => ?_
  obtain ⟨vars3, hn, hbk⟩ := bnd hbk
  obtain ⟨pp, _, hbk⟩ := bnd hbk
  obtain ⟨s3, hl3, hbk⟩ := bnd hbk
  obtain ⟨v3, hle, hbk⟩ := bnd hbk
  cases hbk
  cases r with
  | ret => exact noS hn
  | next vars4 =>
    cases (show some vars4 = some vars3 from hn)
    obtain ⟨rfl, hM⟩ := ends
    obtain ⟨hi3, r3⟩ := hM pp v3 (hl3.trans (congrArg some (lentV_eq hle)))
    obtain ⟨F2, adv2⟩ := F1.upd (v' := v3) hx rfl hco hcont (fun b o e ne => kp b o e (.inl ne)) (fun b e => (ex b e).elim id fun x => absurd (x ▸ e) r3.ref_some.some) hi3 r3
    exact q _ _ (.next F2 ((Adv.stays st1).trans adv2))
theorem swaps_no {e : Expr} {t : Option Expr} {line : Nat} (ht : t ≠ none) (he : ∀ elt gens sc pos, e ≠ .ListComp elt gens sc pos) (he2 : ∀ elt gens sc pos, e ≠ .SetComp elt gens sc pos) (he3 : ∀ k v gens sc pos, e ≠ .DictComp k v gens sc pos) : swapsWith e t line env = pure false := by
  cases e with
  | ListComp => exact absurd rfl (he _ _ _ _)
  | SetComp => exact absurd rfl (he2 _ _ _ _)
  | DictComp => exact absurd rfl (he3 _ _ _ _ _)
  | _ => rfl
theorem slotE {n : Nat} {e : Expr} {sl : Mode × PV} (hs : xSlot T n sc vars e = some sl) : (∀ a b c d, e ≠ .SetComp a b c d) ∧ ∀ k v a b c, e ≠ .DictComp k v a b c := by
  cases n with
  | zero => exact noS hs
  | succ n =>
    constructor
    · rintro a b c d rfl
      cases n <;> exact noS hs
    · rintro k v a b c rfl
      cases n <;> exact noS hs
theorem s_name (ih : ∀ k, k ≤ n → Snd T hb k) (rm : Room A n) {x : Str} {px pos : Pos} {e : Expr} {r : Res} (F : Frame hb sc env pb nb lent vars val s.heap) (hv : zAsgN (zRec T n) sc vars x e = some r) (E : Value → Shared → Prop) (Q : Flow → Shared → Prop)
    (q : ∀ f s', After hb sc env pb nb lent (Wr sc env vars val) s r f s' → Q f s') : wpAny (model prog w) A (exec (.Assign [.Name x px] e pos) env) Q E s := by
  have ihn := ih n (Nat.le_refl n)
  obtain ⟨hx, hv⟩ := onlyIf hv
  obtain ⟨sl, hs, hv⟩ := bnd hv
  cases hv
  by_cases hcomp : ∃ elt gens csc cp, e = .ListComp elt gens csc cp
  · obtain ⟨elt, gens, csc, cp, rfl⟩ := hcomp
    obtain ⟨b, hsw⟩ : ∃ b, swapsWith (.ListComp elt gens csc cp) (some (.Name x px)) pos.line env = pure b := ⟨_, rfl⟩
    cases b with
    | false => exact s_assign1 ihn rm F hx hs hsw E Q q
    | true =>
      cases n with
      | zero => exact noS hs
      | succ n =>
        obtain ⟨a, ha, hs⟩ := bnd (show (xE T n sc vars (.ListComp elt gens csc cp)).bind pubM = some sl from hs)
        cases n with
        | zero => exact noS ha
        | succ n =>
          obtain ⟨t, it, ifs, rest, items, r, rfl, hok, hi, hr, hz, rfl⟩ := comp_is (show zComp (zRec T n) sc vars elt gens csc = some a from ha)
          cases hs
          exact s_assignC (ih n (by (first | with_reducible exact Nat.le_trans (by assumption) (by decide) | lia | omega))) (rm.le (by (first | with_reducible exact Nat.le_trans (by assumption) (by decide) | lia | omega))) F hx hok hi hr hz hsw E Q q
  · exact s_assign1 ihn rm F hx hs (swaps_no (by simp) (fun a b c d e' => hcomp ⟨a, b, c, d, e'⟩) (slotE hs).1 (slotE hs).2) E Q q
theorem s_asg (ih : ∀ k, k ≤ n → Snd T hb k) (LF : Leafs) (rm : Room A n) {t e : Expr} {pos : Pos} {r : Res} (F : Frame hb sc env pb nb lent vars val s.heap) (hv : zAsg1 (zRec T n) sc vars (tgtOf t) e = some r) (E : Value → Shared → Prop) (Q : Flow → Shared → Prop)
    (q : ∀ f s', After hb sc env pb nb lent (Wr sc env vars val) s r f s' → Q f s') : wpAny (model prog w) A (exec (.Assign [t] e pos) env) Q E s := by
  have ihn := ih n (Nat.le_refl n)
  rcases tgtOf_is (e := t) with ⟨x, px, rfl⟩ | ⟨ts, k, tp, rfl⟩ | ⟨d, dp, i, sp, rfl⟩ | ho
  · exact s_name ih rm F hv E Q q
  · have hv : zAsgTupO (zRec T n) sc vars ts (tupOf e) = some r := hv
    cases he : tupOf e with
    | none => rw [he] at hv; exact noS hv
    | some es =>
      rw [he] at hv
      obtain ⟨k2, p2, rfl⟩ := tupOf_eq he
      obtain ⟨sw, h1, hv⟩ := bnd hv
      obtain ⟨ss, h2, hv⟩ := bnd hv
      obtain ⟨vars', h3, hv⟩ := bnd hv
      cases hv
      exact s_tuple ihn rm F h1 h2 h3 E Q q
  · obtain ⟨hd, hv⟩ := onlyIf (show (bif nameOk sc d then (xE T n sc vars e).bind fun a => (xE T n sc vars i).bind fun k => (storeP d k.2 a.2 vars).bind fun v => some (.next v) else none) = some r from hv)
    obtain ⟨a, ha, hv⟩ := bnd hv
    obtain ⟨k, hk, hv⟩ := bnd hv
    obtain ⟨vars', hv', hv⟩ := bnd hv
    cases hv
    exact s_put ihn LF rm F hd ha hk hv' E Q q
  · rw [ho] at hv; exact noS hv
theorem s_augA (ihn : Snd T hb n) (LF : Leafs) (rm : Room A n) {t e : Expr} {op : Operator} {pos : Pos} {r : Res} (F : Frame hb sc env pb nb lent vars val s.heap) (hv : zAug (zRec T n) sc vars (tgtOf t) t op e = some r) (E : Value → Shared → Prop) (Q : Flow → Shared → Prop)
    (q : ∀ f s', After hb sc env pb nb lent (Wr sc env vars val) s r f s' → Q f s') : wpAny (model prog w) A (exec (.AugAssign t op e pos) env) Q E s := by
  rcases tgtOf_is (e := t) with ⟨x, px, rfl⟩ | ⟨ts, k, tp, rfl⟩ | ⟨d, dp, i, sp, rfl⟩ | ho
  · obtain ⟨hx, hv⟩ := onlyIf (show zAugN (zRec T n) sc vars x (.Name x px) op e = some r from hv)
    obtain ⟨o, ho, hv⟩ := bnd hv
    obtain ⟨a, ha, hv⟩ := bnd hv
    obtain ⟨u, hu, hv⟩ := bnd hv
    cases hv
    exact s_aug ihn rm F hx ho ha hu E Q q
  · exact noS hv
  · have hv : zAugI (zRec T n) sc vars d i op e (nameOf i) = some r := hv
    cases hi : nameOf i with
    | none => rw [hi] at hv; exact noS hv
    | some x =>
      rw [hi] at hv
      obtain ⟨xp, rfl⟩ := nameOf_eq hi
      obtain ⟨hd, hv⟩ := onlyIf hv
      obtain ⟨k, hk, hv⟩ := bnd hv
      obtain ⟨a, ha, hv⟩ := bnd hv
      obtain ⟨vars', hv', hv⟩ := bnd hv
      cases hv
      exact s_augsub ihn LF rm F hd hk ha hv' E Q q
  · rw [ho] at hv; exact noS hv
theorem s_expr (ihn : Snd T hb n) (G : Glob T hb) (LF : Leafs) (rm : Room A (n + 1)) {e : Expr} {pos : Pos} {r : Res} (F : Frame hb sc env pb nb lent vars val s.heap) (hv : zExpr T (zRec T n) sc vars (callKind e) = some r) (E : Value → Shared → Prop) (Q : Flow → Shared → Prop)
    (q : ∀ f s', After hb sc env pb nb lent (Wr sc env vars val) s r f s' → Q f s') : wpAny (model prog w) A (exec (.Expr e pos) env) Q E s := by
  rcases callKind_is (e := e) with ⟨d, dp, m, apos, args, cp, rfl⟩ | ⟨f, fq, d, dp, args, cp, rfl⟩ | ho
  · obtain ⟨hc, hv⟩ := onlyIf (show zExprM (zRec T n) sc vars d m apos args cp = some r from hv)
    obtain ⟨hc, hc3⟩ := two hc
    obtain ⟨hc1, hc2⟩ := two hc
    obtain ⟨as, has, hv⟩ := bnd hv
    obtain ⟨vars', hv', hv⟩ := bnd hv
    cases hv
    exact s_meth ihn LF rm.pred F hc2 hc1 (of_decide_eq_true hc3) has hv' E Q q
  · obtain ⟨hc, hv⟩ := onlyIf (show zExprF T (zRec T n) sc vars f d dp args = some r from hv)
    obtain ⟨hc1, hc2⟩ := two hc
    obtain ⟨fn, hf, hv⟩ := bnd hv
    obtain ⟨as, has, hv⟩ := bnd hv
    obtain ⟨u, hu, hv⟩ := bnd hv
    obtain ⟨hm, hv⟩ := onlyIf hv
    obtain ⟨hm, hm3⟩ := two hm
    obtain ⟨hm1, hm2⟩ := two hm
    obtain ⟨vars2, h2, hv⟩ := bnd hv
    obtain ⟨r2, hr2, hv⟩ := bnd hv
    obtain ⟨vars', hv', hv⟩ := bnd hv
    cases hv
    exact s_insort ihn G rm F hc1 hc2 hf has hu hm2 hm3 h2 hr2 hv' E Q q
  · rw [ho] at hv; exact noS hv
theorem step_s (ih : ∀ k, k ≤ n → Snd T hb k) (G : Glob T hb) (LF : Leafs) : SOk T hb (n + 1) := by
  intro A sc env pb nb lent vars val s st r rm hv F E Q q
  have rm' := rm.pred
  have ihn := ih n (Nat.le_refl n)
  cases st with
  | Assign ts e pos =>
    match ts with
    | [] => exact noS hv
    | _ :: _ :: _ => exact noS hv
    | [t] => exact s_asg ih LF rm' F hv E Q q
  | AugAssign t op e pos => exact s_augA ihn LF rm' F hv E Q q
  | For t it body els pos =>
    cases els with
    | cons => exact noS hv
    | nil =>
      obtain ⟨items, h1, h2⟩ := bnd (show (xIterS T n sc (Mine.freeze it vars) (isTupT t) it).bind (fun items => xFor T n sc (Mine.freeze it vars) t body items) = some r from hv)
      exact s_for ihn rm' F h1 h2 E Q q
  | While test body els pos =>
    cases els with
    | cons => exact noS hv
    | nil => exact wpAny_While (ihn.while_ A sc env pb nb lent vars val s test body r rm' hv F _ fun f s' aft => q f s' aft)
  | If t a b pos =>
    obtain ⟨c, hc, hv⟩ := bnd (show (xT T n sc vars t).bind (fun c => bif c then xSs T n sc vars a else xSs T n sc vars b) = some r from hv)
    exact s_if ihn rm' F hc hv E Q q
  | Return o pos =>
    cases o with
    | none => exact noS hv
    | some e => exact s_ret ihn rm' F hv E Q q
  | Expr e pos => exact s_expr ihn G LF rm F hv E Q q
  | _ => exact noS hv
end
end Mine
namespace Mine
open PySem PySem.Calls PyProof.Rows PySem.W PySem.SeqAt
section
variable {T : Tab} {hb : Heap}
theorem snd_zero : Snd T hb 0 where
  e := fun A sc env vars pub s e p v rm hv => noS hv
  o := fun A sc env vars pub s e v rm hv => noS hv
  es := fun A sc env vars pub s es vs rm hv => noS hv
  bools := fun A sc env vars pub s op es b rm hv => noS hv
  t := fun A sc env vars pub s e b rm hv => noS hv
  ts := fun A sc env vars pub s op es b rm hv => noS hv
  chain := fun A sc env vars pub s a ops rs b ca rm hv => noS hv
  iter := fun A sc env vars pub s target tup e its rm hv => noS hv
  iterS := fun A sc env pb nb lent vars val s target tup e its rm hv => noS hv
  bi := fun A sc env vars pub s b args v rm hv => noS hv
  comp := fun A sc env pb nb lent vars val s target iter ifs elt gens scope0 pos0 depth rest D ys out vars' I pi wr dep its St i rm hv => noS hv
  elt := fun A sc env pb nb lent vars val s elt gens scope0 pos0 depth rest D ys out vars' rm hv => noS hv
  call := fun A fn as v a s vals pub rm hv => noS hv
  ss := fun A sc env pb nb lent vars val s body r rm hv => noS hv
  slot := fun A sc env vars pub s e md v rm hv => noS hv
  slots := fun A sc env vars pub s es ss rm hv => noS hv
  s := fun A sc env pb nb lent vars val s st r rm hv => noS hv
  for_ := fun A sc env pb nb lent vars val s target body r I pi wr dep its St i rm hv => noS hv
  while_ := fun A sc env pb nb lent vars val s test body r rm hv => noS hv
theorem snd_succ {n : Nat} (ih : ∀ k, k ≤ n → Snd T hb k) (G : Glob T hb) (LF : Leafs) (hc : Consts T hb) : Snd T hb (n + 1) :=
  have i := ih n (Nat.le_refl n)
  { e := step_e i G LF
    o := step_o i
    es := step_es i
    bools := step_bools i
    t := step_t i
    ts := step_ts i
    chain := step_chain i
    iter := step_iter i G LF
    iterS := step_iterS i G LF
    bi := step_bi i G LF
    comp := step_comp i
    elt := step_elt i
    call := step_call i G.nolimit hc
    ss := step_ss i
    slot := step_slot i
    slots := step_slots i
    s := step_s ih G LF
    for_ := step_for i
    while_ := step_while i }
theorem snd (G : Glob T hb) (LF : Leafs) (hc : Consts T hb) (n : Nat) : Snd T hb n := by
  have key : ∀ n k, k ≤ n → Snd T hb k := by
    intro n
    induction n with
    | zero => intro k hk; have : k = 0 := by (first | with_reducible exact Nat.le_trans (by assumption) (by decide) | lia | omega)
              subst this; exact snd_zero
    | succ n ih =>
      intro k hk
      rcases Nat.lt_or_ge k (n + 1) with h | h
      · exact ih k (by (first | with_reducible exact Nat.le_trans (by assumption) (by decide) | lia | omega))
      · have : k = n + 1 := by (first | with_reducible exact Nat.le_trans (by assumption) (by decide) | lia | omega)
        subst this; exact snd_succ ih G LF hc
  exact key n n (Nat.le_refl n)
end
end Mine
namespace Mine
open PySem PySem.Calls PyProof.Rows PySem.W PySem.SeqAt
section
variable {h : Heap} {A : Around} {s : Shared} {n : Nat}
theorem put_T {ok : Addr → Prop} {as : List Atom} {x : Addr} {v : PV} {cv : Value} (rv : VRep h ok v cv) : ∀ {xs : List (List Atom × Addr × Value)} {vs ks' vs' : List PV}, (xs.map (·.1)).Nodup → VAll h ok vs (xs.map fun x => x.2.2) →
    putD2 (tupPV as) v (xs.map fun x => tupPV x.1) vs = some (ks', vs') → ks' = (storedH xs as x cv).map (fun x => tupPV x.1) ∧ VAll h ok vs' ((storedH xs as x cv).map fun x => x.2.2)
  | [], vs, ks', vs', _, r, e => by
    simp only [List.map_nil, putD2, Option.some.injEq, Prod.mk.injEq] at e
    obtain ⟨rfl, rfl⟩ := e
    exact ⟨by simp [storedH, atKey], .cons rv .nil⟩
  | (a, p) :: xs, vs, ks', vs', hn, r, e => by
    cases r with | cons r0 rr =>
    simp only [List.map_cons, List.nodup_cons] at hn
    simp only [List.map_cons, putD2] at e
    cases hq : PV.eq (tupPV a) (tupPV as) with
    | none => rw [hq] at e; cases e
    | some c =>
      rw [hq] at e
      have hc := (eq_true hq).trans ⟨fun e => tupPV_inj e, fun e => by rw [e]⟩
      cases c with
      | true =>
        have hak : a = as := hc.mp rfl
        subst hak
        simp only [Option.some.injEq, Prod.mk.injEq, List.tail_cons] at e
        obtain ⟨rfl, rfl⟩ := e
        have hst : storedH ((a, p) :: xs) a x cv = (a, p.1, cv) :: xs := by
          rw [storedH_old (p := p) (by simp [atKey])]
          rw [List.map_cons, map_putAt_of_not_mem _ _ _ hn.1]
          simp [putAt]
        rw [hst]
        exact ⟨rfl, .cons rv rr⟩
      | false =>
        have hak : ¬ a = as := fun h => by have := hc.mpr h; cases this
        simp only [Option.map_eq_some_iff, List.head?_cons, Option.toList_some, List.tail_cons] at e
        obtain ⟨q, hq', e⟩ := e
        obtain ⟨i1, i2⟩ := put_T rv (x := x) hn.2 rr hq'
        simp only [Prod.mk.injEq] at e
        obtain ⟨rfl, rfl⟩ := e
        have hst : storedH ((a, p) :: xs) as x cv = (a, p) :: storedH xs as x cv := by
          unfold storedH
          have : atKey ((a, p) :: xs) as = atKey xs as := by simp [atKey, hak]
          rw [this]
          split
          · rw [List.map_cons]; simp [putAt, hak]
          · rfl
        rw [hst]
        exact ⟨by rw [i1]; rfl, .cons r0 i2⟩
theorem put_A {ok : Addr → Prop} {k : Atom} {v : PV} {cv : Value} (rv : VRep h ok v cv) : ∀ {xs : List (Atom × Value)} {vs ks' vs' : List PV}, (xs.map (·.1)).Nodup → VAll h ok vs (xs.map fun x => x.2) →
    putD2 (atomPV k) v (xs.map fun x => atomPV x.1) vs = some (ks', vs') → ks' = (stored xs k cv).map (fun x => atomPV x.1) ∧ VAll h ok vs' ((stored xs k cv).map fun x => x.2)
  | [], vs, ks', vs', _, r, e => by
    simp only [List.map_nil, putD2, Option.some.injEq, Prod.mk.injEq] at e
    obtain ⟨rfl, rfl⟩ := e
    exact ⟨by simp [stored], .cons rv .nil⟩
  | (a, p) :: xs, vs, ks', vs', hn, r, e => by
    cases r with | cons r0 rr =>
    simp only [List.map_cons, List.nodup_cons] at hn
    simp only [List.map_cons, putD2] at e
    cases hq : PV.eq (atomPV a) (atomPV k) with
    | none => rw [hq] at e; cases e
    | some c =>
      rw [hq] at e
      have hc := (eq_true hq).trans ⟨fun e => atomPV_inj e, fun e => by rw [e]⟩
      cases c with
      | true =>
        have hak : a = k := hc.mp rfl
        subst hak
        simp only [Option.some.injEq, Prod.mk.injEq, List.tail_cons] at e
        obtain ⟨rfl, rfl⟩ := e
        have hst : stored ((a, p) :: xs) a cv = (a, cv) :: xs := by
          unfold stored
          rw [if_pos (by simp), List.map_cons]
          simp only [if_true]
          congr 1
          refine (List.map_congr_left fun y hy => ?_).trans (List.map_id xs)
          have : y.1 ≠ a := fun e => hn.1 (List.mem_map.mpr ⟨y, hy, e⟩)
          simp [this]
        rw [hst]
        exact ⟨rfl, .cons rv rr⟩
      | false =>
        have hak : ¬ a = k := fun h => by have := hc.mpr h; cases this
        simp only [Option.map_eq_some_iff, List.head?_cons, Option.toList_some, List.tail_cons] at e
        obtain ⟨q, hq', e⟩ := e
        obtain ⟨i1, i2⟩ := put_A rv hn.2 rr hq'
        simp only [Prod.mk.injEq] at e
        obtain ⟨rfl, rfl⟩ := e
        have hst : stored ((a, p) :: xs) k cv = (a, p) :: stored xs k cv := by
          unfold stored
          simp only [List.any_cons, hak, decide_false, Bool.false_or]
          split
          · rw [List.map_cons]; simp [hak]
          · rfl
        rw [hst]
        exact ⟨by rw [i1]; rfl, .cons r0 i2⟩
theorem get_of_put {k v : PV} : ∀ {ks vs : List PV} {r : List PV × List PV}, ks.length = vs.length → putD2 k v ks vs = some r → ∃ o, getD2 k ks vs = some o
  | [], vs, r, _, _ => ⟨none, by simp [getD2]⟩
  | y :: ks, [], r, hl, _ => by simp at hl
  | y :: ks, z :: vs, r, hl, e => by
    simp only [putD2] at e
    simp only [getD2]
    cases hq : PV.eq y k with
    | none => rw [hq] at e; cases e
    | some c =>
      rw [hq] at e
      cases c with
      | true => exact ⟨some z, rfl⟩
      | false =>
        simp only [Option.map_eq_some_iff] at e
        obtain ⟨p, hp, _⟩ := e
        exact get_of_put (by simpa using hl) hp
theorem dict_notTup {K : Type} [DecidableEq K] {knd : PySem.KeyKind prog w K} {d : Addr} {xs : List (K × Value)} (hd : h.DictOf knd d xs) : ∀ o, h.get? d = some o → ¬ isTupObj o := fun o e t => by
  obtain ⟨ob, _, _, ho, hx, _⟩ := hd
  rw [e] at ho; cases ho
  have := t.1; rw [hx.1] at this; simp at this
theorem dictH_notTup {K : Type} [DecidableEq K] {knd : HeapKind prog w K} {d : Addr} {xs : List (K × Addr × Value)} (hd : h.DictOfH knd d xs) : ∀ o, h.get? d = some o → ¬ isTupObj o := fun o e t => by
  obtain ⟨ob, _, _, ho, hx, _⟩ := hd
  rw [e] at ho; cases ho
  have := t.1; rw [hx.1] at this; simp at this
theorem put_core {ks vs ks' vs' : List PV} {k v : PV} {d : Addr} {ck cv : Value} {E : Value → Shared → Prop} {Q : Unit → Shared → Prop} (hu : A.units < cLine ∧ A.units + 1 < cLine) (hk : keyP k = true) (hv : v.imm = true) (hz : szOk ks.length = true) (hp : putD2 k v ks vs = some (ks', vs')) (hi : okItems (.dict ks vs) = true)
    (rd : VRep s.heap (fun b => b = d) (.dict ks vs) (.ref d)) (rk : VRep s.heap (fun _ => True) k ck) (rv : VRep s.heap (fun _ => True) v cv)
    (q : ∀ h' tk, VRep h' (fun b => b = d) (.dict ks' vs') (.ref d) → Heap.SameBut d s.heap h' → Q () { s with heap := h', toks := tk }) : wpAny (model prog w) A (dictSet d ck cv) Q E s ∧ wpAny (model prog w) A (setItem (.ref d) ck cv) Q E s := by
  obtain ⟨d', e, hds, dv⟩ := dicts (Ok := fun ok => ok = fun _ => True) rfl (fun ok o => by subst o; exact rd.weaken fun _ _ => trivial)
  cases e
  have hvs : PV.imms vs = true := (Bool.and_eq_true_iff.mp hi).2
  have hlen : ks.length = vs.length := by
    cases dv with
    | T xs hd e ha => subst e; have := (ha _ rfl).2.length; simp at this ⊢; (first | with_reducible exact Nat.le_trans (by assumption) (by decide) | lia | omega)
    | A xs hd e ha => subst e; have := (ha _ rfl).2.length; simp at this ⊢; (first | with_reducible exact Nat.le_trans (by assumption) (by decide) | lia | omega)
  obtain ⟨o, hg⟩ := get_of_put hlen hp
  have hme : Mut s.heap d := rd.ref_some
  have rv' : VRep s.heap (fun _ => False) v cv := imm_any hv rv
  cases kview dv hk rk hg with
  | T as x e1 e2 hk' xs hd e' ha =>
    subst e1; subst e2; subst e'
    have hsz : xs.length ≤ sizeLine := by have := szOk_le hz; simpa using this
    have hnd : (xs.map (·.1)).Nodup := let ⟨_, _, _, _, _, _, _, _, hn⟩ := hd; hn
    obtain ⟨i1, i2⟩ := put_T (x := x) rv' hnd (imms_any (ok' := fun _ => False) hvs (ha _ rfl).2) hp
    have fin : ∀ h', h'.DictOfH (tupKind) d (storedH xs as x cv) → Heap.SameBut d s.heap h' → VRep h' (fun b => b = d) (.dict ks' vs') (.ref d) := fun h' hm hs =>
      .dictT _ rfl hm hds i1 (i2.kp (kp_sameBut hs hme (dictH_notTup hd)) fun _ f => f.elim)
    exact ⟨wpAny_dictSet_heap (hsz := hsz) hu.1 hk' hd fun h' hm hs => q h' _ (fin h' hm hs) hs, wpAny_setItem_heap (hsz := hsz) hu.2 hk' hd fun h' hm hs => q h' _ (fin h' hm hs) hs⟩
  | A k' e1 hk' xs hd e' ha =>
    subst e1; subst e'
    have hsz : xs.length ≤ sizeLine := by have := szOk_le hz; simpa using this
    have hnd : (xs.map (·.1)).Nodup := let ⟨_, _, _, _, _, _, _, _, hn⟩ := hd; hn
    obtain ⟨i1, i2⟩ := put_A rv' hnd (imms_any (ok' := fun _ => False) hvs (ha _ rfl).2) hp
    have fin : ∀ h', h'.DictOf (atomKind) d (stored xs k' cv) → Heap.SameBut d s.heap h' → VRep h' (fun b => b = d) (.dict ks' vs') (.ref d) := fun h' hm hs =>
      .dictA _ rfl hm hds i1 (i2.kp (kp_sameBut hs hme (dict_notTup hd)) fun _ f => f.elim)
    exact ⟨wpAny_dictSet_pairs (hsz := hsz) hk' hd fun h' hm hs => q h' _ (fin h' hm hs) hs, wpAny_setItem_pairs (hsz := hsz) hk' hd fun h' hm hs => q h' _ (fin h' hm hs) hs⟩
theorem leaf_put {ks vs ks' vs' : List PV} {k v : PV} {d : Addr} {ck cv : Value} {E : Value → Shared → Prop} {Q : Unit → Shared → Prop} (rm : Room A n) (hk : keyP k = true) (hv : v.imm = true) (hz : szOk ks.length = true) (hp : putD2 k v ks vs = some (ks', vs')) (hi : okItems (.dict ks vs) = true)
    (rd : VRep s.heap (fun b => b = d) (.dict ks vs) (.ref d)) (rk : VRep s.heap (fun _ => True) k ck) (rv : VRep s.heap (fun _ => True) v cv)
    (q : ∀ h' tk, VRep h' (fun b => b = d) (.dict ks' vs') (.ref d) → Heap.SameBut d s.heap h' → Q () { s with heap := h', toks := tk }) : wpAny (model prog w) A (dictSet d ck cv) Q E s ∧ wpAny (model prog w) A (setItem (.ref d) ck cv) Q E s :=
  put_core (by have := rm.u; (first | with_reducible exact Nat.le_trans (by assumption) (by decide) | lia | omega)) hk hv hz hp hi rd rk rv q
end
end Mine
namespace Mine
open PySem PySem.Calls PyProof.Rows PySem.W PySem.SeqAt
open MeetsSeq
section
variable {h : Heap} {A : Around} {s : Shared} {n : Nat} {pub : Pubs}
theorem own_list {l : List PV} {d : Addr} (r : VRep h (fun b => b = d) (.list l) (.ref d)) (hi : okItems (.list l) = true) : ∃ items m, h.get? d = some { cls := .type "list", dict := none, data := .seq items m, slots := #[] } ∧ ∀ ok, VAll h ok l items.toList := by
  obtain ⟨_, items, e, _, ⟨m, hl⟩, ha⟩ := r.list_inv
  cases e
  exact ⟨items, m, hl, fun ok => imms_any hi ha⟩
theorem own_new {l l' : List PV} {d : Addr} {items : Array Value} {m : Nat} {h' : Heap} {g : Array Value → Array Value} (hl' : h'.get? d = some { cls := .type "list", dict := none, data := .seq items m, slots := #[] })
    (ha : VAll h' (fun _ => False) l items.toList) (f : (∀ ok, VAll (h'.update d (Obj.mapSeq g)) ok l items.toList) → VAll (h'.update d (Obj.mapSeq g)) (fun b => b = d) l' (g items).toList) : VRep (h'.update d (Obj.mapSeq g)) (fun b => b = d) (.list l') (.ref d) :=
  have kp : Kp (fun b => b = d) h' (h'.update d (Obj.mapSeq g)) := kp_sameBut (Heap.SameBut.update ..) ⟨_, hl', .inl ⟨_, _, rfl⟩⟩ (list_notTup ⟨m, hl'⟩)
  .list rfl ⟨_, IsL.update hl' g⟩ (f fun _ => ha.kp kp fun _ f => f.elim)
theorem own_imm {v : PV} {cv : Value} {d : Addr} {items : Array Value} {m : Nat} {h' : Heap} {g : Array Value → Array Value} {ok ok' : Addr → Prop} (hl' : h'.get? d = some { cls := .type "list", dict := none, data := .seq items m, slots := #[] }) (hv : v.imm = true) (rv : VRep h' ok v cv) : VRep (h'.update d (Obj.mapSeq g)) ok' v cv :=
  (imm_any (ok' := fun _ => False) hv rv).kp (kp_sameBut (Heap.SameBut.update ..) ⟨_, hl', .inl ⟨_, _, rfl⟩⟩ (list_notTup ⟨m, hl'⟩)) fun _ f => f.elim
theorem lm_insert {as : List (Bool × PV)} {l l' : List PV} {d : Addr} (e : insL l (as.map (·.2)) = some l') (hi : okItems (.list l) = true) (r : VRep s.heap (fun b => b = d) (.list l) (.ref d)) :
    MethOf s "insert" (.ref d) fun id => ∀ h' tk cs pub (E : Value → Shared → Prop) (Q : Value → Shared → Prop), s.heap.StaysIn h' → VsRep h' pub as cs →
      (∀ h'' tk', VRep h'' (fun b => b = d) (.list l') (.ref d) → Heap.SameBut d h' h'' → Q .none { s with heap := h'', toks := tk' }) → wpAny (model prog w) A (call (.builtin id) (.ref d :: cs)) Q E { s with heap := h', toks := tk } := by
  obtain ⟨items, k, hl, ha⟩ := own_list r hi
  have hlen : l.length = items.size := (ha fun _ => True).length
  refine ⟨"list", "list.insert", F.plainAttrs_list, F.slot_list_insert, F.type_list_insert, ⟨_, hl, rfl⟩, fun a e => by cases e; exact ⟨_, hl, rfl⟩, fun h' tk cs pub E Q st vr q => ?_⟩
  obtain ⟨i, v, has, hv, hz, h0, h1, rfl⟩ := insL_is e
  have vr' := vr.all (q := false) nofun _ .T
  rw [has] at vr'
  obtain ⟨ci, cs, rfl, ri, rr⟩ := vr'.cons_inv
  obtain ⟨cv, cs, rfl, rv, rr⟩ := rr.cons_inv
  obtain rfl := rr.nil_inv
  obtain ⟨u, rfl⟩ := ri.int_inv
  have hl' := st _ _ hl
  have hz1 : l.length ≤ 1000000 := of_decide_eq_true hz
  have hfit : ¬(!Builtin.List.listFitsIndex i) = true := by simp [Builtin.List.listFitsIndex]; (first | with_reducible exact Nat.le_trans (by assumption) (by decide) | lia | omega)
  refine call_meets F.slot_list_insert ⟨_, hl', rfl⟩ F.entry_list_insert (F.args_list_insert_3 _ _ _) (AutoListH.list_insert_list_int_val_1 d items k i u cv hfit (hlen ▸ szOk_le hz)) ⟨hl', q _ _ (own_new hl' ((ha fun _ => False).stays st fun _ x => x) fun ha' => ?_) (Heap.SameBut.update ..)⟩
  have hk : (if i < 0 then (i + ((items.size : Nat) : Int)).toNat else min i.toNat items.size) = i.toNat := by
    rw [if_neg (by (first | with_reducible exact Nat.le_trans (by assumption) (by decide) | lia | omega))]; (first | with_reducible exact Nat.le_trans (by assumption) (by decide) | lia | omega)
  have hlist : ((fun k => (items.extract 0 k).push cv ++ items.extract k) (if i < 0 then (i + ((items.size : Nat) : Int)).toNat else min i.toNat items.size)).toList = items.toList.take i.toNat ++ cv :: items.toList.drop i.toNat := by
    rw [hk]
    simp [List.take_of_length_le]
  rw [hlist]
  exact ((ha' _).take _).append (.cons (own_imm hl' hv rv) ((ha' _).drop _))
theorem leaf_lmeth {m : Str} {as : List (Bool × PV)} {l l' : List PV} {d : Addr} (_rm : Room A n) (e : methL m (as.map (·.2)) l = some l') (hi : okItems (.list l) = true) (r : VRep s.heap (fun b => b = d) (.list l) (.ref d)) :
    MethOf s m (.ref d) fun id => ∀ h' tk cs pub (E : Value → Shared → Prop) (Q : Value → Shared → Prop), s.heap.StaysIn h' → VsRep h' pub as cs →
      (∀ h'' tk', VRep h'' (fun b => b = d) (.list l') (.ref d) → Heap.SameBut d h' h'' → Q .none { s with heap := h'', toks := tk' }) → wpAny (model prog w) A (call (.builtin id) (.ref d :: cs)) Q E { s with heap := h', toks := tk } := by
  obtain ⟨hm, e⟩ := methL_is e
  obtain rfl := strEq_iff.mp hm
  exact lm_insert e hi r
theorem leaf_bi2 {b : BI} {v1 v2 r : PV} {c1 c2 : Value} (rm : Room A n) (e : bi2 b v1 v2 = some r) (r1 : VRep s.heap (fun _ => True) v1 c1) (r2 : VRep s.heap (fun _ => True) v2 c2) : Gets A s (call (biVal b) [c1, c2]) (Oks true pub) r := by
  cases b with
  | max =>
    obtain ⟨i, j, rfl, rfl, e⟩ := intPs_some e
    obtain ⟨t, rfl⟩ := r1.int_inv; obtain ⟨u, rfl⟩ := r2.int_inv
    cases e
    refine fun E Q q => PySem.max_two_ints rm.h fun h' tk k => ?_
    split
    · exact q _ h' tk k fun _ _ => by rw [if_pos (by omega)]; exact .int _ _
    · exact q _ h' tk k fun _ _ => by rw [if_neg (by omega)]; exact .int _ _
  | min =>
    obtain ⟨i, j, rfl, rfl, e⟩ := intPs_some e
    obtain ⟨t, rfl⟩ := r1.int_inv; obtain ⟨u, rfl⟩ := r2.int_inv
    cases e
    refine fun E Q q => PySem.min_two_ints rm.h fun h' tk k => ?_
    split
    · exact q _ h' tk k fun _ _ => by rw [if_pos (by omega)]; exact .int _ _
    · exact q _ h' tk k fun _ _ => by rw [if_neg (by omega)]; exact .int _ _
  | _ => exact noS e
theorem leaf_isi {v r : PV} {cv : Value} (e : isiP v = some r) (rv : VRep s.heap (fun _ => True) v cv) : Gets A s (call (.builtin "isinstance") [cv, .type "tuple"]) (Oks true pub) r := by
  cases v with
  | int i =>
    obtain ⟨t, rfl⟩ := rv.int_inv
    cases e
    exact fun E Q q => PySem.IsiPair.int_tuple (q _ s.heap _ (stays_refl _) fun _ _ => .bool _)
  | _ => exact noS e
end
end Mine
namespace Mine
open PySem PySem.Calls PyProof.Rows PySem.W PySem.SeqAt
section
variable {h : Heap} {A : Around} {s : Shared} {n : Nat} {pub : Pubs}
set_option backward.match.sparseCases true in
theorem letGo_plain {I : Addr} {o : Obj} {nm : String} {target : Expr} {v : Value} {E : Value → Shared → Prop} {Q : Unit → Shared → Prop} (ho : s.heap.get? I = some o) (hc : o.cls = .type nm)
    (hn : ["enumerate", "zip", "dict_itemiterator", "dict_reverseitemiterator", "odict_iterator", "itertools.zip_longest", "itertools.pairwise"].contains nm = false) (q : Q () s) : wpAny (model prog w) A (letOwnedTupleGo target (.ref I) v) Q E s := by
  have tail : ∀ a, wpAny (model prog w) A (do
      let o ← load I
      match o.cls, o.data with
      | .type n, .fields vs =>
        if ["enumerate", "zip", "dict_itemiterator", "dict_reverseitemiterator", "odict_iterator", "itertools.zip_longest", "itertools.pairwise"].contains n && vs[0]? == some (rawInt a) then
          rule "for.unpacks-the-owned-tuple"
          updateField I 0 .none
      | _, _ => pure ()) Q E s := fun a => by
    refine wpAny_bind (wpAny_load ho ?_)
    rw [hc]
    split
    · rename_i n vs e1 e2
      cases e1
      rw [hn, Bool.false_and, if_neg (by simp)]
      exact wpAny_pure q
    · exact wpAny_pure q
  unfold letOwnedTupleGo
  split
  · cases v with
    | ref a => exact tail a
    | _ => exact wpAny_pure q
  · cases v with
    | ref a => exact tail a
    | _ => exact wpAny_pure q
  · exact wpAny_pure q
theorem turns_walks {target : Expr} {I : Addr} {fp wr : List Addr} {P : Nat → Value → Prop} {St : Nat → Heap → Prop} {pi : Addr → Prop} {its : List PV} {vals : List Value} (W : Walks prog w A I fp wr its.length P St) (hP : ∀ i v, P i v → vals[i]? = some v)
    (hob : ∀ i h, St i h → ∀ a, a ∈ wr → ItOb h a) (hgo : ∀ i (s : Shared) v (E : Value → Shared → Prop) (Q : Unit → Shared → Prop), St i s.heap → Q () s → wpAny (model prog w) A (letOwnedTupleGo target (.ref I) v) Q E s) :
    Turns A target I pi (fun a => a ∈ wr) (fun a => a ∈ fp ∧ a ∉ wr) its (fun i h => St i h ∧ VAll h pi its vals) where
  frame := fun V i h h' hpi hwr hdep kp st => ⟨W.frame i h h' st.1 fun b hb o e => kp b o e (.inl (by
    by_cases hbw : b ∈ wr
    · exact hwr b hbw
    · exact hdep b ⟨hb, hbw⟩)), st.2.kp kp fun a o => ⟨hpi a o, o⟩⟩
  it := fun i h a st ha => hob i h st.1 a ha
  item := fun i x s E Q hx st q => by
    have hlt : i < its.length := (List.getElem?_eq_some_iff.mp hx).1
    refine W.item i s _ E hlt st.1 fun v h' tk hv st' k => ⟨v, rfl, ?_⟩
    have va : VAll h' pi its vals := st.2.here.kp (kp_its (fun a e => hob i s.heap st.1 a e) k) fun a o => ⟨fun hm => ItOb.not o.2.mut (hob i s.heap st.1 a hm), o.1⟩
    obtain ⟨v', hv', hr⟩ := va.get hx
    rw [hP i v hv] at hv'; cases hv'
    exact hgo (i + 1) { s with heap := h', toks := tk } v E (fun _ s₂ => Q v s₂) st' (q v h' tk hr ⟨st', va⟩ k)
  done := fun s E Q st q => W.done s Q E st.1 fun h' tk k => q h' tk k
  self := fun i s E Q st q => W.self i s Q E st.1 q
theorem pack_list {pl dk : Addr → Prop} {target : Expr} {l : List PV} {a : Addr} {items : Array Value} {E : Value → Shared → Prop} {Q : Value → Shared → Prop} (rm : Room A n) (hl : s.heap.PlainList a items) (hd : dk a) (va : VAll s.heap pl l items.toList)
    (q : ∀ it s', Pack A s target pl dk l it s' → Q it s') : wpAny (model prog w) A (pyIter (.ref a)) Q E s := by
  have hlen : l.length = items.size := by have := va.length; simpa using this
  have hne : a ≠ s.heap.objs.size := by obtain ⟨m, e⟩ := hl; exact Nat.ne_of_lt (Heap.lt_size e)
  have st := stays_push s.heap { cls := .type "list_iterator", data := .fields #[.ref a, .int 0 0] }
  have hex : ∀ h' : Heap, s.heap.StaysIn h' → h'.get? a ≠ none := fun h' st => by obtain ⟨m, e⟩ := hl; rw [st _ _ e]; simp
  have W := Walks.list (prog := prog) (w := w) (A := A) rm.h s.heap.objs.size a hne items
  rw [← hlen] at W
  refine wpAny_pyIter_list hl.isList (q _ _ ⟨_, _, _, _, _, s.toks, rfl, rfl, st, turns_walks (vals := items.toList) W (fun i v h => by simpa using h) (fun i h x b hb => ?_) (fun i s v E Q x q => ?_), ⟨⟨⟨_, Heap.get?_push_size _ rfl, rfl, rfl⟩, hl.isList.push _⟩, (va.exist.stays st fun b o => ⟨o.1, fun e => o.2 (none_of_stays st e)⟩)⟩, fun b hb => ?_, fun b hb => ?_⟩)
  · rw [List.mem_singleton.mp hb]; obtain ⟨o, ho, _, hd⟩ := x.1; exact ⟨o, _, ho, hd⟩
  · obtain ⟨o, ho, hc, _⟩ := x.1; exact letGo_plain ho hc (by decide) q
  · rw [List.mem_singleton.mp hb]; exact fresh_none _
  · obtain ⟨hb1, hb2⟩ := hb
    have : b = a := by
      rcases List.mem_cons.mp hb1 with e | e
      · exact absurd (by simp [e]) hb2
      · exact List.mem_singleton.mp e
    subst this
    exact ⟨hex _ st, .inr hd⟩
end
end Mine
namespace Mine
open PySem PySem.Calls PyProof.Rows PySem.W PySem.SeqAt
section
variable {h : Heap} {A : Around} {s : Shared} {n : Nat} {pub : Pubs}
theorem turns_walks2 {target : Expr} {I : Addr} {fp wr : List Addr} {P : Nat → Value → Prop} {St : Nat → Heap → Prop} {pi : Addr → Prop} {its : List PV} {X : Heap → Prop} (W : Walks prog w A I fp wr its.length P St)
    (hP : ∀ i v x h, X h → its[i]? = some x → P i v → VRep h pi x v)
    (hX : ∀ (V : Addr → Prop) h h', X h → (∀ a, pi a → Cont h a → ¬ V a) → Kp V h h' → X h')
    (hob : ∀ i h, St i h → ∀ a, a ∈ wr → ItOb h a) (hgo : ∀ i (s : Shared) v (E : Value → Shared → Prop) (Q : Unit → Shared → Prop), St i s.heap → Q () s → wpAny (model prog w) A (letOwnedTupleGo target (.ref I) v) (fun _ => Q ()) E s)
    (hfp : ∀ i h, St i h → ∀ b ∈ fp, b ∈ wr ∨ ∃ o, h.get? b = some o ∧ isTupObj o) :
    Turns A target I pi (fun a => a ∈ wr) (fun _ => False) its (fun i h => St i h ∧ X h) where
  frame := fun V i h h' hpi hwr _ kp st => ⟨W.frame i h h' st.1 fun b hb o e => kp b o e (by
    rcases hfp i h st.1 b hb with hbw | ⟨o', e', t⟩
    · exact .inl (hwr b hbw)
    · rw [e] at e'; cases e'; exact .inr t), hX V h h' st.2 (fun a o _ => hpi a o) kp⟩
  it := fun i h a st ha => hob i h st.1 a ha
  item := fun i x s E Q hx st q => by
    have hlt : i < its.length := (List.getElem?_eq_some_iff.mp hx).1
    refine W.item i s _ E hlt st.1 fun v h' tk hv st' k => ⟨v, rfl, ?_⟩
    have x' : X h' := hX (fun a => a ∈ wr) s.heap h' st.2 (fun a _ hc hm => ItOb.not hc.mut (hob i s.heap st.1 a hm)) (kp_its (fun a e => hob i s.heap st.1 a e) k)
    exact hgo (i + 1) { s with heap := h', toks := tk } v E (fun _ s₂ => Q v s₂) st' (q v h' tk (hP i v x h' x' hx hv) ⟨st', x'⟩ k)
  done := fun s E Q st q => W.done s Q E st.1 fun h' tk k => q h' tk k
  self := fun i s E Q st q => W.self i s Q E st.1 q
theorem pack_tup {pl dk : Addr → Prop} {target : Expr} {l : List PV} {a : Addr} {items : Array Value} {E : Value → Shared → Prop} {Q : Value → Shared → Prop} (rm : Room A n) (hl : PlainTup s.heap a items) (va : VAll s.heap pl l items.toList)
    (q : ∀ it s', Pack A s target pl dk l it s' → Q it s') : wpAny (model prog w) A (pyIter (.ref a)) Q E s := by
  have hlen : l.length = items.size := by have := va.length; simpa using this
  obtain ⟨m, hl⟩ := hl
  have hne : a ≠ s.heap.objs.size := Nat.ne_of_lt (Heap.lt_size hl)
  have st := stays_push s.heap { cls := .type "tuple_iterator", data := .fields #[.ref a, .int 0 0] }
  have W := Walks.tuple (prog := prog) (w := w) (A := A) rm.h s.heap.objs.size a hne items
  rw [← hlen] at W
  refine wpAny_pyIter_tuple ⟨_, hl, rfl, m, rfl⟩ (q _ _ ⟨_, _, _, _, _, s.toks, rfl, rfl, st, turns_walks2 (X := fun h => VAll h (fun b => pl b ∧ (s.heap.push { cls := .type "tuple_iterator", data := .fields #[.ref a, .int 0 0] }).get? b ≠ none) l items.toList) W (fun i v x h va hx hv => ?_) (fun V h h' va hV kp => va.here.kp kp fun b o => ⟨hV b o.1 o.2, o.1⟩) (fun i h x b hb => ?_) (fun i s v E Q x q => ?_) (fun i h x b hb => ?_),
    ⟨⟨⟨_, Heap.get?_push_size _ rfl, rfl, rfl⟩, ⟨_, st _ _ hl, rfl, m, rfl⟩⟩, (va.exist.stays st fun b o => ⟨o.1, fun e => o.2 (none_of_stays st e)⟩)⟩, fun b hb => ?_, fun b hb => hb.elim⟩)
  · obtain ⟨v', h1, h2⟩ := va.get hx
    have hv' : items.toList[i]? = some v := by simpa using hv
    rw [hv'] at h1; cases h1; exact h2
  · rw [List.mem_singleton.mp hb]; obtain ⟨o, ho, _, hd⟩ := x.1; exact ⟨o, _, ho, hd⟩
  · obtain ⟨o, ho, hc, _⟩ := x.1; exact letGo_plain ho hc (by decide) q
  · rcases List.mem_cons.mp hb with e | e
    · exact .inl (by simp [e])
    · rw [List.mem_singleton.mp e]
      obtain ⟨o, ho, hc, k, hd⟩ := x.2
      exact .inr ⟨o, ho, hc, _, _, hd⟩
  · rw [List.mem_singleton.mp hb]; exact fresh_none _
theorem pack_str {pl dk : Addr → Prop} {target : Expr} {x : Str} {t : Tok} {E : Value → Shared → Prop} {Q : Value → Shared → Prop} (rm : Room A n)
    (q : ∀ it s', Pack A s target pl dk (x.cps.toList.map fun c => .str [c]) it s' → Q it s') : wpAny (model prog w) A (pyIter (.str x t)) Q E s := by
  have hlen : (x.cps.toList.map fun c => PV.str [c]).length = x.cps.size := by simp
  have key : ∀ nm, (["enumerate", "zip", "dict_itemiterator", "dict_reverseitemiterator", "odict_iterator", "itertools.zip_longest", "itertools.pairwise"].contains nm = false) →
      Walks prog w A s.heap.objs.size [s.heap.objs.size] [s.heap.objs.size] x.cps.size (SignAt x) (fun i h => h.IsStrIter s.heap.objs.size nm x t i) →
      Q (.ref s.heap.objs.size) { s with heap := s.heap.push { cls := .type nm, data := .fields #[.str x t, .int 0 0] } } := fun nm hn W => by
    have st := stays_push s.heap { cls := .type nm, data := .fields #[.str x t, .int 0 0] }
    rw [← hlen] at W
    refine q _ _ ⟨_, _, _, _, _, s.toks, rfl, rfl, st, turns_walks2 (X := fun _ => True) W (fun i v y h _ hy hv => ?_) (fun _ _ _ _ _ _ => trivial) (fun i h z b hb => ?_) (fun i s v E Q z q => ?_) (fun i h z b hb => .inl hb), ⟨⟨_, Heap.get?_push_size _ rfl, rfl, rfl⟩, trivial⟩, fun b hb => ?_, fun b hb => hb.elim⟩
    · obtain ⟨c, u, h1, rfl⟩ := hv
      rw [List.getElem?_map] at hy
      have h1' : x.cps.toList[i]? = some c := by simpa using h1
      rw [h1'] at hy; cases hy
      exact .str _ _ rfl
    · rw [List.mem_singleton.mp hb]; obtain ⟨o, ho, _, hd⟩ := z; exact ⟨o, _, ho, hd⟩
    · obtain ⟨o, ho, hc, _⟩ := z; exact letGo_plain ho hc hn q
    · rw [List.mem_singleton.mp hb]; exact fresh_none _
  refine wpAny_pyIter_strU ?_
  unfold strIterType
  split
  · exact key _ (by decide) (Walks.strAscii rm.h _ x t)
  · exact key _ (by decide) (Walks.strWide rm.h _ x t)
end
end Mine
namespace Mine
open PySem PySem.Calls PyProof.Rows PySem.W PySem.SeqAt
section
variable {h : Heap} {A : Around} {s : Shared} {n : Nat} {pub : Pubs}
theorem pack_range {pl dk : Addr → Prop} {target : Expr} {its : List PV} {r : Addr} {a b c : Int} {t u v : Tok} {E : Value → Shared → Prop} {Q : Value → Shared → Prop} (rm : Room A n) (hr : IsRange s.heap r a b c t u v) (hsmall : Builtin.Range.small a b c = true)
    (hlen : Builtin.Range.rangeSize a b c = its.length) (hits : ∀ (i : Nat) (x : PV), its[i]? = some x → x = .int (a + i * c))
    (q : ∀ it s', Pack A s target pl dk its it s' → Q it s') : wpAny (model prog w) A (pyIter (.ref r)) Q E s := by
  have st := stays_push s.heap { cls := .type "range_iterator", data := .fields #[rawInt a, rawInt (Builtin.Range.rangeSize a b c), rawInt c] }
  have W := Walks.range (prog := prog) (w := w) (A := A) rm.h s.heap.objs.size a c its.length
  refine wpAny_pyIter_range hr hsmall (q _ _ ⟨_, _, _, _, _, s.toks, rfl, rfl, st, turns_walks2 (X := fun _ => True) W (fun i v x h _ hx hv => ?_) (fun _ _ _ _ _ _ => trivial) (fun i h z b hb => ?_) (fun i s v E Q z q => ?_) (fun i h z b hb => .inl hb), ⟨?_, trivial⟩, fun b hb => ?_, fun b hb => hb.elim⟩)
  · obtain ⟨tk, rfl⟩ := hv
    rw [hits i x hx]; exact .int _ _
  · rw [List.mem_singleton.mp hb]; exact ⟨_, _, z, rfl⟩
  · exact letGo_plain z rfl (by decide) q
  · have := Heap.get?_push_size s.heap (o := { cls := .type "range_iterator", data := .fields #[rawInt a, rawInt (Builtin.Range.rangeSize a b c), rawInt c] }) rfl
    rw [hlen] at this ⊢
    simpa using this
  · rw [List.mem_singleton.mp hb]; exact fresh_none _
theorem up_get {a b : Int} {i : Nat} {x : PV} (h : (rangeUp a b)[i]? = some x) : x = .int (a + i * 1) := by
  unfold rangeUp at h
  rw [List.getElem?_map] at h
  cases q : (List.range (b - a).toNat)[i]? with
  | none => rw [q] at h; cases h
  | some k =>
    rw [q] at h; cases h
    have := List.getElem?_eq_some_iff.mp q
    obtain ⟨h1, h2⟩ := this
    simp at h2; subst h2; simp
theorem down_get {a b : Int} {i : Nat} {x : PV} (h : (rangeDown a b)[i]? = some x) : x = .int (a + i * -1) := by
  unfold rangeDown at h
  rw [List.getElem?_map] at h
  cases q : (List.range (a - b).toNat)[i]? with
  | none => rw [q] at h; cases h
  | some k =>
    rw [q] at h; cases h
    have := List.getElem?_eq_some_iff.mp q
    obtain ⟨h1, h2⟩ := this
    simp at h2; subst h2
    have e : a - (i : Int) = a + (i : Int) * -1 := by rw [Int.mul_neg, Int.mul_one]; rfl
    rw [← e]
inductive RangeS : List PV → List PV → Prop
  | one {b : Int} (h : smallI b = true) : RangeS [.int b] (rangeUp 0 b)
  | two {a b : Int} (h : smallI a = true) (h2 : smallI b = true) : RangeS [.int a, .int b] (rangeUp a b)
  | down {a b : Int} (h : smallI a = true) (h2 : smallI b = true) : RangeS [.int a, .int b, .int (-1)] (rangeDown a b)
theorem range_cases {vs its : List PV} (e : evalRange vs = some its) : RangeS vs its := by
  match vs, e with
  | [], e => exact noS e
  | [x], e =>
    obtain ⟨a, ha, e⟩ := bnd e
    rw [intP_eq ha]
    obtain ⟨h, rfl⟩ := ifS e
    exact .one h
  | [x, y], e =>
    obtain ⟨a, ha, e⟩ := bnd e
    obtain ⟨b, hb, e⟩ := bnd e
    rw [intP_eq ha, intP_eq hb]
    obtain ⟨h, rfl⟩ := ifS e
    exact .two (two h).1 (two h).2
  | [x, y, z], e =>
    obtain ⟨a, ha, e⟩ := bnd e
    obtain ⟨b, hb, e⟩ := bnd e
    obtain ⟨c, hc, e⟩ := bnd e
    rw [intP_eq ha, intP_eq hb, intP_eq hc]
    obtain ⟨h, rfl⟩ := ifS e
    obtain ⟨h4, h3⟩ := two h
    obtain rfl := eq_of_beq h3
    exact .down (two h4).1 (two h4).2
  | x :: y :: z :: _ :: _, e =>
    obtain ⟨a, ha, e⟩ := bnd e
    obtain ⟨b, hb, e⟩ := bnd e
    exact noS e
theorem gap (x y : Int) : (if x < y then (y - x - 1) / 1 + 1 else 0) = (((y - x).toNat : Nat) : Int) := by
  by_cases h : x < y
  · rw [if_pos h, Int.ediv_one, Int.sub_add_cancel, Int.toNat_of_nonneg (Int.sub_nonneg_of_le (Int.le_of_lt h))]
  · rw [if_neg h, Int.toNat_eq_zero.mpr (Int.sub_nonpos_of_le (Int.not_lt.mp h))]; rfl
theorem up (a b : Int) : Builtin.Range.rangeSize a b 1 = (rangeUp a b).length := by
  unfold rangeUp
  rw [List.length_map, List.length_range]
  exact gap a b
theorem dn (a b : Int) : Builtin.Range.rangeSize a b (-1) = (rangeDown a b).length := by
  unfold rangeDown
  rw [List.length_map, List.length_range]
  exact gap b a
theorem fits {a : Int} (h : -(2 ^ 62 : Int) < a ∧ a < 2 ^ 62) : Builtin.Range.rangeFitsLong a = true :=
  (Bool.and_eq_true _ _).mpr ⟨decide_eq_true (Int.le_of_lt (Int.lt_trans (by decide) h.1)), decide_eq_true (Int.lt_trans h.2 (by decide))⟩
theorem fitsN {a b : Int} (h1 : smallI a = true) (h2 : smallI b = true) : Builtin.Range.rangeFitsLong (((b - a).toNat : Nat) : Int) = true :=
  (Bool.and_eq_true _ _).mpr ⟨decide_eq_true (Int.le_trans (by decide) (Int.natCast_nonneg _)), decide_eq_true (Int.lt_of_le_of_lt (Int.ofNat_le.mpr ((Int.toNat_le (n := 2 ^ 63 - 1)).mpr (Int.le_trans (Int.le_sub_one_of_lt (Int.sub_lt_sub (smallI_bounds h2).2 (smallI_bounds h1).1)) (by decide)))) (by decide))⟩
theorem small_of {a b c n : Int} (h1 : smallI a = true) (h2 : smallI b = true) (hc : Builtin.Range.rangeFitsLong c = true) (hn : Builtin.Range.rangeSize a b c = n) (hb : Builtin.Range.rangeFitsLong n = true)
    (hl : (if c > 0 then Builtin.Range.rangeFitsLong (b + (c - 1)) else Builtin.Range.rangeFitsLong (b + (c + 1))) = Builtin.Range.rangeFitsLong (b + 0)) : Builtin.Range.small a b c = true := by
  unfold Builtin.Range.small
  rw [fits (smallI_bounds h1), fits (smallI_bounds h2), hc, hn, hb, hl, Int.add_zero, fits (smallI_bounds h2), Bool.or_true]; rfl
theorem call_range {vs its : List PV} {cs : List Value} {E : Value → Shared → Prop} {Q : Value → Shared → Prop} (e : evalRange vs = some its) (va : VAll s.heap (fun _ => True) vs cs)
    (q : ∀ r a b c t u v h' tk, s.heap.StaysIn h' → IsRange h' r a b c t u v → Builtin.Range.small a b c = true → Builtin.Range.rangeSize a b c = its.length → (∀ (i : Nat) (x : PV), its[i]? = some x → x = .int (a + i * c)) → -(2 ^ 62 : Int) < a → a < 2 ^ 62 → Q (.ref r) { s with heap := h', toks := tk }) :
    wpAny (model prog w) A (call (.type "range") cs) Q E s := by
  cases range_cases e with
  | one hb =>
    obtain ⟨_, _, rfl, r1, rr⟩ := va.cons_inv
    obtain rfl := rr.nil_inv
    obtain ⟨t, rfl⟩ := r1.int_inv
    exact call_range_1 (q _ 0 _ 1 _ _ _ _ _ (stays_push _ _) (IsRange.new ..) (small_of rfl hb rfl (gap 0 _) (fitsN rfl hb) rfl) (up 0 _) (fun i x hx => up_get hx) (by decide) (by decide))
  | two ha hb =>
    have h1 := smallI_bounds ha
    obtain ⟨_, _, rfl, r1, rr⟩ := va.cons_inv
    obtain ⟨_, _, rfl, r2, rr⟩ := rr.cons_inv
    obtain rfl := rr.nil_inv
    obtain ⟨t, rfl⟩ := r1.int_inv
    obtain ⟨u, rfl⟩ := r2.int_inv
    exact call_range_2 (q _ _ _ 1 _ _ _ _ _ (stays_push _ _) (IsRange.new ..) (small_of ha hb rfl (gap _ _) (fitsN ha hb) rfl) (up _ _) (fun i x hx => up_get hx) h1.1 h1.2)
  | down ha hb =>
    have h1 := smallI_bounds ha
    obtain ⟨_, _, rfl, r1, rr⟩ := va.cons_inv
    obtain ⟨_, _, rfl, r2, rr⟩ := rr.cons_inv
    obtain ⟨_, _, rfl, r3, rr⟩ := rr.cons_inv
    obtain rfl := rr.nil_inv
    obtain ⟨t, rfl⟩ := r1.int_inv
    obtain ⟨u, rfl⟩ := r2.int_inv
    obtain ⟨v, rfl⟩ := r3.int_inv
    exact call_range_3 (by decide) (q _ _ _ (-1) _ _ _ _ _ (stays_push _ _) (IsRange.new ..) (small_of ha hb rfl (gap _ _) (fitsN hb ha) rfl) (dn _ _) (fun i x hx => down_get hx) h1.1 h1.2) (.inl (noPylong (by decide)))
theorem leaf_iterRange {vs : List PV} {its : List PV} {cs : List Value} {target : Expr} {E : Value → Shared → Prop} {Q : Value → Shared → Prop} (rm : Room A n) (e : evalRange vs = some its) (va : VAll s.heap (fun _ => True) vs cs)
    (q : ∀ it s', Pack A s target pub.p pub.nw its it s' → Q it s') : wpAny (model prog w) A (call (.type "range") cs) (fun cv s₁ => wpAny (model prog w) A (pyIter cv) Q E s₁) E s :=
  call_range e va fun r a b c t u v h' tk st hr hs hl hi _ _ => pack_range (s := { s with heap := h', toks := tk }) rm hr hs hl hi fun it s' pk => q it s' (by
    obtain ⟨I, wr, dep, St, h2, tk2, rfl, rfl, st', W, st0, hwr, hdep⟩ := pk
    exact ⟨I, wr, dep, St, h2, tk2, rfl, rfl, stays_trans st st', W, st0, fun a o => none_of_stays st (hwr a o), fun a o => ⟨(hdep a o).1, (hdep a o).2.imp (none_of_stays st) id⟩⟩)
end
end Mine
namespace Mine
open PySem PySem.Calls PyProof.Rows PySem.W PySem.SeqAt
open MeetsSeq
section
variable {h : Heap} {A : Around} {s : Shared} {n : Nat} {pub : Pubs}
theorem szOk_small {n : Nat} (h : szOk n = true) : n ≤ 1000000 := by simpa [szOk] using h
theorem len_list {l : List PV} {r : PV} {cv : Value} (e : lenP (.list l) = some r) (rv : VRep s.heap (fun _ => True) (.list l) cv) : Gets A s (call (.builtin "len") [cv]) (Oks true pub) r := by
  have e' : (if szOk l.length = true then some (PV.int l.length) else none) = some r := e
  split at e'
  · rename_i hz
    cases e'
    cases rv with | list o hl ha =>
    rename_i a items
    have hlen : l.length = items.size := by have := ha.length; simpa using this
    have := szOk_small hz
    refine fun E Q q => call_len_list hl.isList (by (first | with_reducible exact Nat.le_trans (by assumption) (by decide) | lia | omega)) ?_
    rw [← hlen]
    exact q _ s.heap _ (stays_refl _) fun _ _ => .int _ _
  · cases e'
theorem len_str' {l : List Nat} {r : PV} {cv : Value} (e : lenP (.str l) = some r) (rv : VRep s.heap (fun _ => True) (.str l) cv) : Gets A s (call (.builtin "len") [cv]) (Oks true pub) r := by
  have e' : (if szOk l.length = true then some (PV.int l.length) else none) = some r := e
  split at e'
  · rename_i hz
    cases e'
    cases rv with | str x t hx =>
    subst hx
    have hlen : x.cps.toList.length = x.length := by simp [PySem.Str.length]
    have := szOk_small hz
    refine fun E Q q => PySem.P.len_str (by (first | with_reducible exact Nat.le_trans (by assumption) (by decide) | lia | omega)) ?_
    rw [← hlen]
    exact q _ s.heap _ (stays_refl _) fun _ _ => .int _ _
  · cases e'
end
end Mine
set_option backward.match.sparseCases true
namespace Mine
open PySem PySem.Calls PyProof.Rows PySem.W PySem.SeqAt
open AutoSeq1 (wpAny_loadPart')
open MeetsSeq MeetsSeq2 MeetsSeq3 SeqRoads2
section
variable {prog : Program} {w : World} {h : Heap} {A : Around} {E : Value → Shared → Prop} {s : Shared} {n : Nat} {pub : Pubs}
end
end Mine
set_option backward.match.sparseCases false
namespace Mine
open PySem PySem.Calls PyProof.Rows PySem.W PySem.SeqAt
section
variable {h : Heap} {A : Around} {s : Shared} {n : Nat} {pub : Pubs}
theorem iterV_seq {a : Bool × PV} {its : List PV} {cv : Value} {target : Expr} {E : Value → Shared → Prop} {Q : Value → Shared → Prop} (rm : Room A n) (e : itemsP a = some its) (hnd : ∀ ks vs, a.2 ≠ .dict ks vs) (rv : ∀ ok, Oks a.1 pub ok → VRep s.heap ok a.2 cv)
    (q : ∀ it s', Pack A s target pub.p pub.nw its it s' → Q it s') : wpAny (model prog w) A (pyIter cv) Q E s := by
  obtain ⟨p, v⟩ := a
  have items : ∀ {l : List PV} {vs : List Value} (hc : (p || PV.imms l) = true), VAll s.heap (fun _ => True) l vs → (p = true → VAll s.heap pub.p l vs) → VAll s.heap pub.p l vs := fun {l vs} hc h1 h2 => by
    simp only [Bool.or_eq_true] at hc
    rcases hc with hc | hc
    · exact h2 hc
    · exact imms_any hc h1
  cases v with
  | list l =>
    have e' : (if (p || PV.imms l) = true then some l else none) = some its := e
    split at e'
    · rename_i hc
      cases e'
      have r1 := rv _ .N
      cases r1 with | list o hl ha =>
      rename_i b items'
      refine pack_list rm hl o (items hc (ha.weaken fun _ _ => trivial) fun hp => ?_) q
      have r2 := rv _ (.inr (.inr ⟨hp, rfl⟩))
      cases r2 with | list o2 hl2 ha2 =>
      obtain ⟨m, e1⟩ := hl; obtain ⟨m2, e2⟩ := hl2
      rw [e1] at e2; cases e2; exact ha2
    · cases e'
  | str l =>
    have e' : some (l.map fun c => PV.str [c]) = some its := e
    cases e'
    have r1 := rv _ .T
    cases r1 with | str x t hx =>
    subst hx
    exact pack_str rm q
  | dict ks vs => exact absurd rfl (hnd _ _)
  | _ => cases e
end
end Mine
namespace Mine
open PySem PySem.Calls PyProof.Rows PySem.W PySem.SeqAt
section
variable {h : Heap} {A : Around} {s : Shared} {n : Nat} {pub : Pubs}
noncomputable def intAt (l : List PV) (i : Nat) : Int := match l[i]? with
  | some (.int j) => j
  | _ => 0
theorem preSum_shift (f : Nat → Int) : ∀ n : Nat, preSum f (n + 1) = f 0 + preSum (fun i => f (i + 1)) n
  | 0 => by simp [preSum]
  | n + 1 => by rw [preSum, preSum_shift f n, preSum]; (first | with_reducible exact Nat.le_trans (by assumption) (by decide) | lia | omega)
theorem int_shift {b : Int} {l : List PV} (h : ∀ (i : Nat) (x : PV), l[i]? = some x → x = .int (intAt l i)) : ∀ (i : Nat) (x : PV), (.int b :: l)[i]? = some x → x = .int (intAt (.int b :: l) i)
  | 0, x, hx => (Option.some.inj hx).symm
  | i + 1, x, hx => h i x hx
theorem sumL_pre : ∀ {l : List PV} {a k : Int}, sumL a l = some k → k = a + preSum (intAt l) l.length ∧ ∀ (i : Nat) (x : PV), l[i]? = some x → x = .int (intAt l i)
  | [], a, k, e => ⟨(Option.some.inj e).symm.trans (Int.add_zero a).symm, fun i x h => noS h⟩
  | x :: l, a, k, e => by
    obtain ⟨b, hb, e⟩ := bnd (show (intP x).bind (fun b => sumL (a + b) l) = some k from e)
    rw [intP_eq hb]
    obtain ⟨i1, i2⟩ := sumL_pre e
    refine ⟨?_, int_shift i2⟩
    rw [i1, List.length_cons, preSum_shift, ← Int.add_assoc]
    rfl
theorem sum_list' {p : Bool} {l : List PV} {r : PV} {cv : Value} (rm : Room A n) (e : biV .sum (p, .list l) = some r) (rv : VRep s.heap (fun _ => True) (.list l) cv) : Gets A s (call (.builtin "sum") [cv]) (Oks true pub) r := by
  obtain ⟨k, hk, e'⟩ := bnd (show (sumL 0 l).bind (fun i => some (PV.int i)) = some r from e)
  cases e'
  obtain ⟨h1, h2⟩ := sumL_pre hk
  obtain ⟨a, items, rfl, o, hl, ha⟩ := rv.list_inv
  have hlen : l.length = items.size := ha.length
  have hne : a ≠ s.heap.objs.size := by obtain ⟨m, e⟩ := hl; exact Nat.ne_of_lt (Heap.lt_size e)
  have hlt : a < s.heap.objs.size := by obtain ⟨m, e⟩ := hl; exact Heap.lt_size e
  refine fun E Q q => call_sum_walkG (wpAny_pyIter_list hl.isList ?_)
  have st := stays_push s.heap { cls := .type "list_iterator", data := .fields #[.ref a, .int 0 0] }
  refine ⟨_, _, _, _, _, _, intAt l, rfl, Walks.list (A := A.in1) rm.h s.heap.objs.size a hne items, ⟨⟨_, Heap.get?_push_size _ rfl, rfl, rfl⟩, hl.isList.push _⟩, fun b hb => ?_, fun i v hv => ?_, fun h' tk t' kp => ?_⟩
  · show b < (s.heap.push _).objs.size
    rw [Heap.size_push]
    rcases List.mem_cons.mp hb with e | e
    · rw [e]; exact Nat.lt_succ_self _
    · rw [List.mem_singleton.mp e]; exact Nat.lt_succ_of_lt hlt
  · obtain ⟨x, hx, rx⟩ := ha.get' (show items.toList[i]? = some v by simpa using hv)
    rw [h2 i x hx] at rx
    exact rx.int_inv
  · have : preSum (intAt l) items.size = k := by rw [← hlen]; (first | with_reducible exact Nat.le_trans (by assumption) (by decide) | lia | omega)
    rw [this]
    exact q _ h' tk (fun b o e => kp b o (fun hm => by rw [List.mem_singleton.mp hm, fresh_none] at e; cases e) (st b o e)) fun _ _ => .int _ _
end
end Mine
namespace Mine
open PySem PySem.Calls PyProof.Rows PySem.W PySem.SeqAt
open MeetsSeq
section
variable {h : Heap} {A : Around} {s : Shared} {n : Nat} {pub : Pubs}
end
end Mine
namespace Mine
open PySem PySem.Calls PyProof.Rows PySem.W PySem.SeqAt
noncomputable def RawAt (h : Heap) (d : Addr) (es : Array DictEntry) (ep : Nat) : Prop := ∃ o, h.get? d = some o ∧ o.ExactDict ∧ o.data = .dict es ep
section
variable {A : Around} {E : Value → Shared → Prop} {s : Shared} {d it : Addr} {es : Array DictEntry} {ep i : Nat}
theorem RawAt.typeIs (x : RawAt s.heap d es ep) : s.TypeIs (.ref d) "dict" := let ⟨o, ho, hc, _⟩ := x; ⟨o, ho, hc.1⟩
theorem RawAt.at {h h' : Heap} (x : RawAt h d es ep) (k : ∀ o, h.get? d = some o → h'.get? d = some o) : RawAt h' d es ep := let ⟨o, ho, r⟩ := x; ⟨o, k o ho, r⟩
theorem keyIter_at {h h' : Heap} {n : Nat} (x : h.IsKeyIter it d i n ep) (k : ∀ o, h.get? it = some o → h'.get? it = some o) : h'.IsKeyIter it d i n ep := let ⟨o, ho, r⟩ := x; ⟨o, k o ho, r⟩
theorem valIter_at {h h' : Heap} {n : Nat} (x : h.IsValIter it d i n ep) (k : ∀ o, h.get? it = some o → h'.get? it = some o) : h'.IsValIter it d i n ep := let ⟨o, ho, r⟩ := x; ⟨o, k o ho, r⟩
theorem raw_pyIter {Q : Value → Shared → Prop} (hd : (d == sysModules) = false) (hm : RawAt s.heap d es ep)
    (hQ : Q (.ref s.heap.objs.size) { s with heap := s.heap.push { cls := .type "dict_keyiterator", data := .fields #[.ref d, .int 0 0, .int es.size 0, .int ep 0] } }) :
    wpAny (model prog w) A (pyIter (.ref d)) Q E s := by
  have hT := hm.typeIs
  obtain ⟨o, ho, hc, hdat⟩ := hm
  refine wpAny_pyIter_slot hT F.slot_dict_iter (wpAny_call_entry F.slot_dict_iter hT F.entry_dict_iter ?_ (F.args_dict_iter_1 _))
  unfold Builtin.«dict.__iter__»
  refine wpAny_bind ?_
  unfold Builtin.Dict.dictSlotNone
  refine wpAny_bind (wpAny_notOrdered_dict hT ?_)
  refine wpAny_pure ?_
  show wpAny _ _ (Builtin.Dict.showsAll d >>= _) _ _ s
  unfold Builtin.Dict.showsAll
  rw [if_neg (by rw [hd]; exact Bool.false_ne_true)]
  refine wpAny_bind (wpAny_pure (wpAny_bind (wpAny_dictEntries ho hdat (wpAny_bind (wpAny_dictEpoch ho hdat ?_)))))
  refine wpAny_bind (wpAny_newObj_type (wpAny_pure ⟨_, rfl, "dict_keyiterator", _, ⟨_, Heap.get?_push_size _ rfl, rfl⟩, F.slot_dict_keyiterator_next.lookup, ?_⟩))
  simpa [rawInt] using hQ
theorem raw_next_key {Q : Option Value → Shared → Prop} (hit : s.heap.IsKeyIter it d i es.size ep) (hm : RawAt s.heap d es ep) (hi : i < es.size)
    (hQ : ∀ h', h'.IsKeyIter it d (i + 1) es.size ep → Heap.SameBut it s.heap h' → Q (some es[i].key) { s with heap := h' }) :
    wpAny (model prog w) A (pyNext (.ref it)) Q E s := by
  obtain ⟨o, ho, hc, hd⟩ := id hit
  obtain ⟨od, hod, hcd, hdd⟩ := id hm
  unfold pyNext
  refine wpAny_bind (wpAny_attempt (wpAny_callSpecial?_slot (name := Str.ofString "__next__") hit.typeIs F.slot_dict_keyiterator_next
    (wpAny_call_entry F.slot_dict_keyiterator_next hit.typeIs F.entry_dict_keyiterator_next ?_ (F.args_dict_keyiterator_next_1 _))))
  refine wpAny_bind (wpAny_pure (wpAny_bind (wpAny_bind ?_)))
  first | refine wpAny_bind (wpAny_typeNameOfWhole_keyiter hit.typeIs (wpAny_pure ?_)) | refine wpAny_bind (wpAny_typeNameOf_keyiter hit.typeIs (wpAny_pure ?_))
  refine wpAny_bind (wpAny_fieldsOf ho hd ?_)
  rw [show Builtin.Dict_items.ownsTuple "dict_keyiterator" = false by decide]
  show wpAny _ _ (if (Value.ref d == Value.none) = true then _ else _) _ _ s
  rw [if_neg (show ¬ ((Value.ref d == Value.none) = true) from Bool.false_ne_true)]
  refine wpAny_bind (wpAny_pure (wpAny_bind (wpAny_dictEntries hod hdd ?_)))
  rw [if_neg (by simp)]
  refine wpAny_bind (wpAny_pure (wpAny_bind (wpAny_dictEpoch hod hdd ?_)))
  rw [if_neg (by simp)]
  refine wpAny_pure ?_
  simp only [show ¬ ((i : Int) < 0) from by (first | with_reducible exact Nat.le_trans (by assumption) (by decide) | lia | omega), if_false, Int.toNat_natCast, Array.getElem?_eq_getElem hi]
  refine wpAny_bind ?_
  first | refine wpAny_bind (wpAny_typeNameOfWhole_keyiter hit.typeIs (wpAny_pure ?_)) | refine wpAny_bind (wpAny_typeNameOf_keyiter hit.typeIs (wpAny_pure ?_))
  refine wpAny_bind (wpAny_isOneOf_keyiter hit.typeIs ?_)
  show wpAny _ _ (setField (.ref it) 1 (rawInt ((i : Int) + 1)) >>= _) _ _ s
  refine wpAny_bind (wpAny_setField ho hd (by simp) ?_)
  have hit' : (s.heap.update it (Obj.mapFields (·.setIfInBounds 1 (rawInt ((i : Int) + 1))))).IsKeyIter it d (i + 1) es.size ep :=
    ⟨_, Heap.get?_update_self _ ho (Obj.isFreed_of_fields (Obj.data_mapFields hd _)), (Obj.cls_mapFields ..).trans hc, by rw [Obj.data_mapFields hd]; simp [rawInt]⟩
  refine wpAny_bind (wpAny_holding ?_)
  refine wpAny_bind (wpAny_isOneOf_keyiter (s := { s with heap := s.heap.update it (Obj.mapFields (·.setIfInBounds 1 (rawInt ((i : Int) + 1)))) }) hit'.typeIs ?_)
  show wpAny _ _ (pure es[i].key) _ _ _
  exact wpAny_pure (wpAny_pure ⟨_, rfl, wpAny_pure (hQ _ hit' (Heap.SameBut.update ..))⟩)
theorem raw_end_key {Q : Option Value → Shared → Prop} (hh : A.handled = none) (hit : s.heap.IsKeyIter it d es.size es.size ep) (hm : RawAt s.heap d es ep)
    (hQ : ∀ h', Heap.ExtBut it s.heap h' → Q none { s with heap := h' }) : wpAny (model prog w) A (pyNext (.ref it)) Q E s := by
  obtain ⟨o, ho, hc, hd⟩ := id hit
  obtain ⟨od, hod, hcd, hdd⟩ := id hm
  unfold pyNext
  refine wpAny_bind (wpAny_attempt (wpAny_callSpecial?_slot (name := Str.ofString "__next__") hit.typeIs F.slot_dict_keyiterator_next
    (wpAny_call_entry F.slot_dict_keyiterator_next hit.typeIs F.entry_dict_keyiterator_next ?_ (F.args_dict_keyiterator_next_1 _))))
  refine wpAny_bind (wpAny_pure (wpAny_bind (wpAny_bind ?_)))
  first | refine wpAny_bind (wpAny_typeNameOfWhole_keyiter hit.typeIs (wpAny_pure ?_)) | refine wpAny_bind (wpAny_typeNameOf_keyiter hit.typeIs (wpAny_pure ?_))
  refine wpAny_bind (wpAny_fieldsOf ho hd ?_)
  rw [show Builtin.Dict_items.ownsTuple "dict_keyiterator" = false by decide]
  show wpAny _ _ (if (Value.ref d == Value.none) = true then _ else _) _ _ s
  rw [if_neg (show ¬ ((Value.ref d == Value.none) = true) from Bool.false_ne_true)]
  refine wpAny_bind (wpAny_pure (wpAny_bind (wpAny_dictEntries hod hdd ?_)))
  rw [if_neg (by simp)]
  refine wpAny_bind (wpAny_pure (wpAny_bind (wpAny_dictEpoch hod hdd ?_)))
  rw [if_neg (by simp)]
  refine wpAny_pure ?_
  simp only [show ¬ ((es.size : Int) < 0) from by (first | with_reducible exact Nat.le_trans (by assumption) (by decide) | lia | omega), if_false, Int.toNat_natCast, Array.getElem?_eq_none (Nat.le_refl _)]
  refine wpAny_bind ?_
  first | refine wpAny_bind (wpAny_typeNameOfWhole_keyiter hit.typeIs (wpAny_pure ?_)) | refine wpAny_bind (wpAny_typeNameOf_keyiter hit.typeIs (wpAny_pure ?_))
  show wpAny _ _ (setField (.ref it) 0 .none >>= _) _ _ s
  refine wpAny_bind (wpAny_setField ho hd (by simp) ?_)
  show wpAny _ _ (newExc (.type "StopIteration") [] >>= _) _ _ _
  refine wpAny_bind ?_
  simp only [newExc, newTuple]
  refine wpAny_bind (wpAny_newObj_type ?_ (by size_fits))
  refine wpAny_bind (m := firstArgMember _ _) (wpAny_of_eq (a := Value.none) (by first | rfl | (simp only [firstArgMember]; rfl)) ?_)
  refine wpAny_newObj_type ?_ (by size_fits)
  simp only [raiseNew]
  refine wpAny_bind (wpAny_handled ?_)
  rw [show A.in1.handled = none from hh]
  refine wpAny_bind (wpAny_pure (wpAny_throw ?_))
  refine wpAny_bind (wpAny_isInstance (T := "StopIteration") (b := true) ⟨_, Heap.get?_push_size _ rfl, rfl⟩ isSubtype_stop ?_)
  exact wpAny_pure (hQ _ (((Heap.SameBut.update ..).extBut.push _).push _))
theorem walks_keys (hh : A.handled = none) (hne : d ≠ it) : Walks prog w A it [it, d] [it] es.size (fun i v => (es.toList.map (·.key))[i]? = some v) (fun i h => h.IsKeyIter it d i es.size ep ∧ RawAt h d es ep) where
  sub := fun b hb => by simp at hb; simp [hb]
  frame := fun _ _ _ st hk => ⟨keyIter_at st.1 fun o e => hk it (by simp) o e, st.2.at fun o e => hk d (by simp) o e⟩
  item := fun i s Q E hi st hQ => raw_next_key st.1 st.2 hi fun h' x y =>
    hQ _ h' s.toks (by simp [hi]) ⟨x, st.2.at fun o e => y.extBut d o hne e⟩ fun b o hb e => y.extBut b o (fun h => hb (by simp [h])) e
  done := fun s Q E st hQ => raw_end_key hh st.1 st.2 fun h' y => hQ h' s.toks fun b o hb e => y b o (fun h => hb (by simp [h])) e
  self := fun _ _ _ _ st q => wpAny_pyIter_keyiter st.1 q
end
end Mine
namespace Mine
open PySem PySem.Calls PyProof.Rows PySem.W PySem.SeqAt
section
variable {A : Around} {E : Value → Shared → Prop} {s : Shared} {d it : Addr} {es : Array DictEntry} {ep i : Nat}
theorem raw_pyIter_vals {v : Addr} {Q : Value → Shared → Prop} (hv : s.heap.IsValuesView v d) (hm : RawAt s.heap d es ep)
    (hQ : Q (.ref s.heap.objs.size) { s with heap := s.heap.push { cls := .type "dict_valueiterator", data := .fields #[.ref d, .int 0 0, .int es.size 0, .int ep 0] } }) :
    wpAny (model prog w) A (pyIter (.ref v)) Q E s := by
  obtain ⟨ov, hov, hcv, hdv⟩ := id hv
  obtain ⟨o, ho, hc, hdat⟩ := id hm
  refine wpAny_pyIter_slot hv.typeIs F.slot_dict_values_iter (wpAny_call_entry F.slot_dict_values_iter hv.typeIs F.entry_dict_values_iter ?_ (F.args_dict_values_iter_1 _))
  unfold Builtin.«dict_values.__iter__»
  refine wpAny_bind (wpAny_pure (wpAny_bind ?_))
  unfold Builtin.Dict_items.dictOf
  refine wpAny_bind (wpAny_field hov hdv (x := .ref d) rfl (wpAny_pure (wpAny_bind ?_)))
  unfold Builtin.Dict_items.newIterator
  refine wpAny_bind (wpAny_dictEntries ho hdat (wpAny_bind (wpAny_dictEpoch ho hdat ?_)))
  simp only [show Builtin.Dict_items.ownsTuple "dict_valueiterator" = false by decide, Bool.false_eq_true, if_false]
  refine wpAny_newObj_type (wpAny_pure ⟨_, rfl, "dict_valueiterator", _, ⟨_, Heap.get?_push_size _ rfl, rfl⟩, F.slot_dict_valueiterator_next.lookup, ?_⟩)
  simpa [rawInt] using hQ
theorem meets_values_raw (d : Addr) (hd : (d == sysModules) = false) :
    MeetsIn prog w (Builtin.«dict.values» ⟨[.ref d], []⟩) (fun _ R s => (∃ es ep, RawAt s.heap d es ep) ∧
      R (.ok (.ret (.ref s.heap.objs.size))) { s with heap := s.heap.push { cls := .type "dict_values", data := .fields #[.ref d] } }) :=
  .of_wp fun A R s ⟨⟨es, ep, hm⟩, h⟩ => by
    refine wpAny_bind ?_
    unfold Builtin.Dict.noArgs
    refine wpAny_bind (wpAny_notOrdered_dict hm.typeIs ?_)
    show wpAny _ _ (pure d) _ _ s
    refine wpAny_pure ?_
    show wpAny _ _ (Builtin.Dict.showsAll d >>= _) _ _ s
    unfold Builtin.Dict.showsAll
    rw [if_neg (by rw [hd]; exact Bool.false_ne_true)]
    exact wpAny_bind (wpAny_pure (wpAny_bind (wpAny_newObj_type (wpAny_pure ⟨_, rfl, h⟩))))
theorem meets_items_raw (d : Addr) (hd : (d == sysModules) = false) :
    MeetsIn prog w (Builtin.«dict.items» ⟨[.ref d], []⟩) (fun _ R s => (∃ es ep, RawAt s.heap d es ep) ∧
      R (.ok (.ret (.ref s.heap.objs.size))) { s with heap := s.heap.push { cls := .type "dict_items", data := .fields #[.ref d] } }) :=
  .of_wp fun A R s ⟨⟨es, ep, hm⟩, h⟩ => by
    unfold Builtin.«dict.items»
    refine wpAny_bind ?_
    unfold Builtin.Dict.noArgs
    refine wpAny_bind (wpAny_notOrdered_dict hm.typeIs ?_)
    show wpAny _ _ (pure d) _ _ s
    refine wpAny_pure ?_
    show wpAny _ _ (Builtin.Dict.showsAll d >>= _) _ _ s
    unfold Builtin.Dict.showsAll
    rw [if_neg (by rw [hd]; exact Bool.false_ne_true)]
    exact wpAny_bind (wpAny_pure (wpAny_bind (wpAny_newObj_type (wpAny_pure ⟨_, rfl, h⟩))))
theorem raw_next_val {Q : Option Value → Shared → Prop} (hit : s.heap.IsValIter it d i es.size ep) (hm : RawAt s.heap d es ep) (hi : i < es.size)
    (hQ : ∀ h', h'.IsValIter it d (i + 1) es.size ep → Heap.SameBut it s.heap h' → Q (some es[i].val) { s with heap := h' }) :
    wpAny (model prog w) A (pyNext (.ref it)) Q E s := by
  obtain ⟨o, ho, hc, hd⟩ := id hit
  obtain ⟨od, hod, hcd, hdd⟩ := id hm
  unfold pyNext
  refine wpAny_bind (wpAny_attempt (wpAny_callSpecial?_slot (name := Str.ofString "__next__") hit.typeIs F.slot_dict_valueiterator_next
    (wpAny_call_entry F.slot_dict_valueiterator_next hit.typeIs F.entry_dict_valueiterator_next ?_ (F.args_dict_valueiterator_next_1 _))))
  refine wpAny_bind (wpAny_pure (wpAny_bind (wpAny_bind ?_)))
  first | refine wpAny_bind (wpAny_typeNameOfWhole_valiter hit.typeIs (wpAny_pure ?_)) | refine wpAny_bind (wpAny_typeNameOf_valiter hit.typeIs (wpAny_pure ?_))
  refine wpAny_bind (wpAny_fieldsOf ho hd ?_)
  rw [show Builtin.Dict_items.ownsTuple "dict_valueiterator" = false by decide]
  show wpAny _ _ (if (Value.ref d == Value.none) = true then _ else _) _ _ s
  rw [if_neg (show ¬ ((Value.ref d == Value.none) = true) from Bool.false_ne_true)]
  refine wpAny_bind (wpAny_pure (wpAny_bind (wpAny_dictEntries hod hdd ?_)))
  rw [if_neg (by simp)]
  refine wpAny_bind (wpAny_pure (wpAny_bind (wpAny_dictEpoch hod hdd ?_)))
  rw [if_neg (by simp)]
  refine wpAny_pure ?_
  simp only [show ¬ ((i : Int) < 0) from by (first | with_reducible exact Nat.le_trans (by assumption) (by decide) | lia | omega), if_false, Int.toNat_natCast, Array.getElem?_eq_getElem hi]
  refine wpAny_bind ?_
  first | refine wpAny_bind (wpAny_typeNameOfWhole_valiter hit.typeIs (wpAny_pure ?_)) | refine wpAny_bind (wpAny_typeNameOf_valiter hit.typeIs (wpAny_pure ?_))
  refine wpAny_bind (wpAny_isOneOf_valiter hit.typeIs ?_)
  show wpAny _ _ (setField (.ref it) 1 (rawInt ((i : Int) + 1)) >>= _) _ _ s
  refine wpAny_bind (wpAny_setField ho hd (by simp) ?_)
  have hit' : (s.heap.update it (Obj.mapFields (·.setIfInBounds 1 (rawInt ((i : Int) + 1))))).IsValIter it d (i + 1) es.size ep :=
    ⟨_, Heap.get?_update_self _ ho (Obj.isFreed_of_fields (Obj.data_mapFields hd _)), (Obj.cls_mapFields ..).trans hc, by rw [Obj.data_mapFields hd]; simp [rawInt]⟩
  refine wpAny_bind (wpAny_holding ?_)
  refine wpAny_bind (wpAny_isOneOf_valiter (s := { s with heap := s.heap.update it (Obj.mapFields (·.setIfInBounds 1 (rawInt ((i : Int) + 1)))) }) hit'.typeIs ?_)
  refine wpAny_bind (wpAny_isOneOf_valiter (s := { s with heap := s.heap.update it (Obj.mapFields (·.setIfInBounds 1 (rawInt ((i : Int) + 1)))) }) hit'.typeIs ?_)
  show wpAny _ _ (pure es[i].val) _ _ _
  exact wpAny_pure (wpAny_pure ⟨_, rfl, wpAny_pure (hQ _ hit' (Heap.SameBut.update ..))⟩)
theorem raw_end_val {Q : Option Value → Shared → Prop} (hh : A.handled = none) (hit : s.heap.IsValIter it d es.size es.size ep) (hm : RawAt s.heap d es ep)
    (hQ : ∀ h', Heap.ExtBut it s.heap h' → Q none { s with heap := h' }) : wpAny (model prog w) A (pyNext (.ref it)) Q E s := by
  obtain ⟨o, ho, hc, hd⟩ := id hit
  obtain ⟨od, hod, hcd, hdd⟩ := id hm
  unfold pyNext
  refine wpAny_bind (wpAny_attempt (wpAny_callSpecial?_slot (name := Str.ofString "__next__") hit.typeIs F.slot_dict_valueiterator_next
    (wpAny_call_entry F.slot_dict_valueiterator_next hit.typeIs F.entry_dict_valueiterator_next ?_ (F.args_dict_valueiterator_next_1 _))))
  refine wpAny_bind (wpAny_pure (wpAny_bind (wpAny_bind ?_)))
  first | refine wpAny_bind (wpAny_typeNameOfWhole_valiter hit.typeIs (wpAny_pure ?_)) | refine wpAny_bind (wpAny_typeNameOf_valiter hit.typeIs (wpAny_pure ?_))
  refine wpAny_bind (wpAny_fieldsOf ho hd ?_)
  rw [show Builtin.Dict_items.ownsTuple "dict_valueiterator" = false by decide]
  show wpAny _ _ (if (Value.ref d == Value.none) = true then _ else _) _ _ s
  rw [if_neg (show ¬ ((Value.ref d == Value.none) = true) from Bool.false_ne_true)]
  refine wpAny_bind (wpAny_pure (wpAny_bind (wpAny_dictEntries hod hdd ?_)))
  rw [if_neg (by simp)]
  refine wpAny_bind (wpAny_pure (wpAny_bind (wpAny_dictEpoch hod hdd ?_)))
  rw [if_neg (by simp)]
  refine wpAny_pure ?_
  simp only [show ¬ ((es.size : Int) < 0) from by (first | with_reducible exact Nat.le_trans (by assumption) (by decide) | lia | omega), if_false, Int.toNat_natCast, Array.getElem?_eq_none (Nat.le_refl _)]
  refine wpAny_bind ?_
  first | refine wpAny_bind (wpAny_typeNameOfWhole_valiter hit.typeIs (wpAny_pure ?_)) | refine wpAny_bind (wpAny_typeNameOf_valiter hit.typeIs (wpAny_pure ?_))
  show wpAny _ _ (setField (.ref it) 0 .none >>= _) _ _ s
  refine wpAny_bind (wpAny_setField ho hd (by simp) ?_)
  show wpAny _ _ (newExc (.type "StopIteration") [] >>= _) _ _ _
  refine wpAny_bind ?_
  simp only [newExc, newTuple]
  refine wpAny_bind (wpAny_newObj_type ?_ (by size_fits))
  refine wpAny_bind (m := firstArgMember _ _) (wpAny_of_eq (a := Value.none) (by first | rfl | (simp only [firstArgMember]; rfl)) ?_)
  refine wpAny_newObj_type ?_ (by size_fits)
  simp only [raiseNew]
  refine wpAny_bind (wpAny_handled ?_)
  rw [show A.in1.handled = none from hh]
  refine wpAny_bind (wpAny_pure (wpAny_throw ?_))
  refine wpAny_bind (wpAny_isInstance (T := "StopIteration") (b := true) ⟨_, Heap.get?_push_size _ rfl, rfl⟩ isSubtype_stop ?_)
  exact wpAny_pure (hQ _ (((Heap.SameBut.update ..).extBut.push _).push _))
theorem walks_vals (hh : A.handled = none) (hne : d ≠ it) : Walks prog w A it [it, d] [it] es.size (fun i v => (es.toList.map (·.val))[i]? = some v) (fun i h => h.IsValIter it d i es.size ep ∧ RawAt h d es ep) where
  sub := fun b hb => by simp at hb; simp [hb]
  frame := fun _ _ _ st hk => ⟨valIter_at st.1 fun o e => hk it (by simp) o e, st.2.at fun o e => hk d (by simp) o e⟩
  item := fun i s Q E hi st hQ => raw_next_val st.1 st.2 hi fun h' x y =>
    hQ _ h' s.toks (by simp [hi]) ⟨x, st.2.at fun o e => y.extBut d o hne e⟩ fun b o hb e => y.extBut b o (fun h => hb (by simp [h])) e
  done := fun s Q E st hQ => raw_end_val hh st.1 st.2 fun h' y => hQ h' s.toks fun b o hb e => y b o (fun h => hb (by simp [h])) e
  self := fun _ _ _ _ st q => wpAny_pyIter_valiter st.1 q
end
end Mine
namespace Mine
open PySem PySem.Calls PyProof.Rows PySem.W PySem.SeqAt
section
variable {A : Around} {E : Value → Shared → Prop} {s : Shared} {d it : Addr} {es : Array DictEntry} {ep i : Nat}
theorem raw_pyIter_items {v : Addr} {Q : Value → Shared → Prop} (hv : s.heap.IsItemsView v d) (hm : RawAt s.heap d es ep)
    (hQ : Q (.ref s.heap.objs.size) { s with heap := s.heap.push { cls := .type "dict_itemiterator", data := .fields #[.none, .bool false, .ref d, .int 0 0, .int es.size 0, .int ep 0, .none, .none] } }) :
    wpAny (model prog w) A (pyIter (.ref v)) Q E s := by
  obtain ⟨ov, hov, hcv, hdv⟩ := id hv
  obtain ⟨o, ho, hc, hdat⟩ := id hm
  refine wpAny_pyIter_slot hv.typeIs F.slot_dict_items_iter (wpAny_call_entry F.slot_dict_items_iter hv.typeIs F.entry_dict_items_iter ?_ (F.args_dict_items_iter_1 _))
  unfold Builtin.«dict_items.__iter__»
  refine wpAny_bind (wpAny_pure (wpAny_bind ?_))
  unfold Builtin.Dict_items.dictOf
  refine wpAny_bind (wpAny_field hov hdv (x := .ref d) rfl (wpAny_pure (wpAny_bind ?_)))
  unfold Builtin.Dict_items.newIterator
  refine wpAny_bind (wpAny_dictEntries ho hdat (wpAny_bind (wpAny_dictEpoch ho hdat ?_)))
  simp only [show Builtin.Dict_items.ownsTuple "dict_itemiterator" = true by decide, if_true]
  refine wpAny_newObj_type (wpAny_pure ⟨_, rfl, "dict_itemiterator", _, ⟨_, Heap.get?_push_size _ rfl, rfl⟩, F.slot_dict_itemiterator_next.lookup, ?_⟩)
    (by simp only [sizeOk, Builtin.Dict_items.ownedTupleFields, List.size_toArray, List.length_append, List.length_cons, List.length_nil, sizeLine_eq]; (first | with_reducible exact Nat.le_trans (by assumption) (by decide) | lia | omega))
  simpa [rawInt, Builtin.Dict_items.ownedTupleFields] using hQ
theorem raw_next_item {ok ov : Value} {Q : Option Value → Shared → Prop} (hit : IsItemIter s.heap it d i es.size ep ok ov) (hm : RawAt s.heap d es ep) (hi : i < es.size)
    (hQ : ∀ h', IsItemIterOut h' it d (i + 1) es.size ep es[i].key es[i].val s.heap.objs.size → h'.get? s.heap.objs.size = some { cls := .type "tuple", data := .seq #[es[i].key, es[i].val] } →
      (∀ b o, b ≠ it → s.heap.get? b = some o → h'.get? b = some o) → Q (some (.ref s.heap.objs.size)) { s with heap := h' }) :
    wpAny (model prog w) A (pyNext (.ref it)) Q E s := by
  obtain ⟨hp, g, dr, tk, os⟩ := s
  obtain ⟨od, hod, hcd, hdd⟩ := id hm
  have hT : Shared.TypeIs ⟨hp, g, dr, tk, os⟩ (.ref it) "dict_itemiterator" := ⟨_, hit, rfl⟩
  unfold pyNext
  refine wpAny_bind (wpAny_attempt (wpAny_callSpecial?_slot (name := Str.ofString "__next__") hT F.slot_dict_itemiterator_next
    (wpAny_call_entry F.slot_dict_itemiterator_next hT F.entry_dict_itemiterator_next ?_ (F.args_dict_itemiterator_next_1 _))))
  refine wpAny_bind (wpAny_pure (wpAny_bind (wpAny_bind ?_)))
  first | refine wpAny_bind (wpAny_typeNameOfWhole_itemiter hT (wpAny_pure ?_)) | refine wpAny_bind (wpAny_typeNameOf_itemiter hT (wpAny_pure ?_))
  refine wpAny_bind (wpAny_fieldsOf hit rfl ?_)
  rw [show Builtin.Dict_items.ownsTuple "dict_itemiterator" = true by decide]
  show wpAny _ _ (if (Value.ref d == Value.none) = true then _ else _) _ _ _
  rw [if_neg (show ¬ ((Value.ref d == Value.none) = true) from Bool.false_ne_true)]
  refine wpAny_bind (wpAny_pure (wpAny_bind (wpAny_dictEntries hod hdd ?_)))
  rw [if_neg (by simp)]
  refine wpAny_bind (wpAny_pure (wpAny_bind (wpAny_dictEpoch hod hdd ?_)))
  rw [if_neg (by simp)]
  refine wpAny_pure ?_
  simp only [show ¬ ((i : Int) < 0) from by (first | with_reducible exact Nat.le_trans (by assumption) (by decide) | lia | omega), if_false, Int.toNat_natCast, Array.getElem?_eq_getElem hi]
  refine wpAny_bind ?_
  first | refine wpAny_bind (wpAny_typeNameOfWhole_itemiter hT (wpAny_pure ?_)) | refine wpAny_bind (wpAny_typeNameOf_itemiter hT (wpAny_pure ?_))
  refine wpAny_bind (wpAny_isOneOf_itemiter hT ?_)
  show wpAny _ _ (setField (.ref it) 3 (rawInt ((i : Int) + 1)) >>= _) _ _ ⟨hp, g, dr, tk, os⟩
  refine wpAny_bind (wpAny_setField_rec hit (by simp) fun h₁ he₁ hs₁ => ?_)
  replace hs₁ : Heap.SameBut it hp h₁ := hs₁
  replace he₁ : IsItemIter h₁ it d (i + 1) es.size ep ok ov := by
    have e : ((i + 1 : Nat) : Int) = (i : Int) + 1 := by (first | with_reducible exact Nat.le_trans (by assumption) (by decide) | lia | omega)
    unfold IsItemIter; rw [e]; simpa [rawInt] using he₁
  have hT₁ : Shared.TypeIs ⟨h₁, g, dr, tk, os⟩ (.ref it) "dict_itemiterator" := ⟨_, he₁, rfl⟩
  refine wpAny_bind (wpAny_holding ?_)
  refine wpAny_bind (wpAny_isOneOf_itemiter hT₁ ?_)
  refine wpAny_bind (wpAny_isOneOf_itemiter hT₁ ?_)
  show wpAny _ _ (Builtin.Dict_items.pairFromOwner (.ref it) 6 es[i].key es[i].val) _ _ ⟨h₁, g, dr, tk, os⟩
  unfold Builtin.Dict_items.pairFromOwner
  refine wpAny_bind (wpAny_newTuple ?_)
  have he₂ : IsItemIter (h₁.push { cls := .type "tuple", data := .seq #[es[i].key, es[i].val] }) it d (i + 1) es.size ep ok ov := Heap.get?_push_of_some _ he₁
  generalize hh₂ : h₁.push { cls := .type "tuple", data := .seq #[es[i].key, es[i].val] } = h₂ at he₂
  have hz₁ : h₁.objs.size = hp.objs.size := hs₁.1
  have hil : it < hp.objs.size := Heap.lt_size hit
  have ht₂ : h₂.get? hp.objs.size = some { cls := .type "tuple", data := .seq #[es[i].key, es[i].val] } := by rw [← hh₂, ← hz₁]; exact Heap.get?_push_size _ rfl
  have hk₂ : ∀ b o, b ≠ it → hp.get? b = some o → h₂.get? b = some o := fun b o hb e => by rw [← hh₂]; exact Heap.get?_push_of_some _ (hs₁.extBut b o hb e)
  show wpAny _ _ (Builtin.Dict_items.ownedTupleIsFree (.ref it) >>= _) _ _ ⟨h₂, g, dr, tk, os⟩
  rw [hz₁]
  clear hh₂ he₁ hs₁ hT₁ hz₁ h₁
  refine wpAny_bind ?_
  unfold Builtin.Dict_items.ownedTupleIsFree
  refine wpAny_bind (wpAny_field he₂ rfl (x := .none) rfl (wpAny_pure ?_))
  simp only [if_true]
  refine wpAny_bind (wpAny_field he₂ rfl (x := ok) rfl (wpAny_bind (wpAny_field he₂ rfl (x := ov) rfl ?_)))
  refine wpAny_bind (wpAny_setField_rec he₂ (by simp) fun h₃ he₃ hs₃ => ?_)
  replace hs₃ : Heap.SameBut it h₂ h₃ := hs₃
  replace he₃ : IsItemIter h₃ it d (i + 1) es.size ep es[i].key ov := he₃
  refine wpAny_bind (wpAny_setField_rec he₃ (by simp) fun h₄ he₄ hs₄ => ?_)
  replace hs₄ : Heap.SameBut it h₃ h₄ := hs₄
  replace he₄ : IsItemIter h₄ it d (i + 1) es.size ep es[i].key es[i].val := he₄
  refine wpAny_bind (wpAny_setField_rec he₄ (by simp) fun h₅ he₅ hs₅ => ?_)
  replace hs₅ : Heap.SameBut it h₄ h₅ := hs₅
  replace he₅ : IsItemIterOut h₅ it d (i + 1) es.size ep es[i].key es[i].val hp.objs.size := he₅
  refine wpAny_bind (wpAny_setField_rec he₅ (by simp) fun h₆ he₆ hs₆ => ?_)
  replace hs₆ : Heap.SameBut it h₅ h₆ := hs₆
  replace he₆ : IsItemIterOut h₆ it d (i + 1) es.size ep es[i].key es[i].val hp.objs.size := he₆
  have all : ∀ b o, b ≠ it → h₂.get? b = some o → h₆.get? b = some o := fun b o hb e => hs₆.extBut b o hb (hs₅.extBut b o hb (hs₄.extBut b o hb (hs₃.extBut b o hb e)))
  exact wpAny_bind (wpAny_letGo (wpAny_pure (wpAny_pure ⟨_, rfl, wpAny_pure (hQ h₆ he₆ (all _ _ (Nat.ne_of_gt hil) ht₂) fun b o hb e => all b o hb (hk₂ b o hb e))⟩)))
theorem raw_end_item {ok ov : Value} {Q : Option Value → Shared → Prop} (hh : A.handled = none) (hit : IsItemIter s.heap it d es.size es.size ep ok ov) (hm : RawAt s.heap d es ep)
    (hQ : ∀ h', Heap.ExtBut it s.heap h' → Q none { s with heap := h' }) : wpAny (model prog w) A (pyNext (.ref it)) Q E s := by
  obtain ⟨od, hod, hcd, hdd⟩ := id hm
  have hT : s.TypeIs (.ref it) "dict_itemiterator" := ⟨_, hit, rfl⟩
  unfold pyNext
  refine wpAny_bind (wpAny_attempt (wpAny_callSpecial?_slot (name := Str.ofString "__next__") hT F.slot_dict_itemiterator_next
    (wpAny_call_entry F.slot_dict_itemiterator_next hT F.entry_dict_itemiterator_next ?_ (F.args_dict_itemiterator_next_1 _))))
  refine wpAny_bind (wpAny_pure (wpAny_bind (wpAny_bind ?_)))
  first | refine wpAny_bind (wpAny_typeNameOfWhole_itemiter hT (wpAny_pure ?_)) | refine wpAny_bind (wpAny_typeNameOf_itemiter hT (wpAny_pure ?_))
  refine wpAny_bind (wpAny_fieldsOf hit rfl ?_)
  rw [show Builtin.Dict_items.ownsTuple "dict_itemiterator" = true by decide]
  show wpAny _ _ (if (Value.ref d == Value.none) = true then _ else _) _ _ s
  rw [if_neg (show ¬ ((Value.ref d == Value.none) = true) from Bool.false_ne_true)]
  refine wpAny_bind (wpAny_pure (wpAny_bind (wpAny_dictEntries hod hdd ?_)))
  rw [if_neg (by simp)]
  refine wpAny_bind (wpAny_pure (wpAny_bind (wpAny_dictEpoch hod hdd ?_)))
  rw [if_neg (by simp)]
  refine wpAny_pure ?_
  simp only [show ¬ ((es.size : Int) < 0) from by omega, if_false, Int.toNat_natCast, Array.getElem?_eq_none (Nat.le_refl _)]
  refine wpAny_bind ?_
  first | refine wpAny_bind (wpAny_typeNameOfWhole_itemiter hT (wpAny_pure ?_)) | refine wpAny_bind (wpAny_typeNameOf_itemiter hT (wpAny_pure ?_))
  show wpAny _ _ (setField (.ref it) 2 .none >>= _) _ _ s
  refine wpAny_bind (wpAny_setField hit rfl (by simp) ?_)
  show wpAny _ _ (newExc (.type "StopIteration") [] >>= _) _ _ _
  refine wpAny_bind ?_
  simp only [newExc, newTuple]
  refine wpAny_bind (wpAny_newObj_type ?_ (by size_fits))
  refine wpAny_bind (m := firstArgMember _ _) (wpAny_of_eq (a := Value.none) (by first | rfl | (simp only [firstArgMember]; rfl)) ?_)
  refine wpAny_newObj_type ?_ (by size_fits)
  simp only [raiseNew]
  refine wpAny_bind (wpAny_handled ?_)
  rw [show A.in1.handled = none from hh]
  refine wpAny_bind (wpAny_pure (wpAny_throw ?_))
  refine wpAny_bind (wpAny_isInstance (T := "StopIteration") (b := true) ⟨_, Heap.get?_push_size _ rfl, rfl⟩ isSubtype_stop ?_)
  exact wpAny_pure (hQ _ (((Heap.SameBut.update ..).extBut.push _).push _))
end
end Mine
namespace Mine
open PySem PySem.Calls PyProof.Rows PySem.W PySem.SeqAt
section
variable {h : Heap} {ok : Addr → Prop}
theorem atom_rep {k : Atom} {v : Value} (hk : (atomKind).is k v = true) : VRep h ok (atomPV k) v := by
  rcases Atom.is_shape hk with ⟨i, t, rfl, rfl⟩ | ⟨x, t, rfl, rfl⟩
  · exact .int i t
  · exact .str x t rfl
theorem tup_rep {k : List Atom} {a : Addr} (hk : (tupKind).is h k a) : VRep h ok (tupPV k) (.ref a) := by
  obtain ⟨⟨o, items, n, ho, hc, hd, hi⟩, items', m, hm⟩ := hk
  have e := hm.symm.trans ho
  cases e
  simp only at hd
  cases hd
  refine .tup ⟨_, hm⟩ ?_
  clear hm ho hc
  generalize items.toList = vs at hi
  induction hi with
  | nil => exact .nil
  | @cons k v ks vs h1 _ ih => exact .cons (atom_rep h1) ih
theorem pairs_rep {ok' : Addr → Prop} {es : List DictEntry} {xs : List (Atom × Value)} (hp : Pairs (atomKind) es xs) :
    VAll h ok' (xs.map fun x => atomPV x.1) (es.map (·.key)) ∧ es.map (·.val) = xs.map fun x => x.2 := by
  induction hp with
  | nil => exact ⟨.nil, rfl⟩
  | cons h1 h2 _ ih => exact ⟨.cons (atom_rep h1) ih.1, by simp [h2, ih.2]⟩
theorem pairsT_rep {ok' : Addr → Prop} : ∀ {xs : List (List Atom × Addr × Value)}, (∀ x ∈ xs, (tupKind).is h x.1 x.2.1) →
    VAll h ok' (xs.map fun x => tupPV x.1) ((xs.map (entryOfKey (tupKind))).map (·.key)) ∧ (xs.map (entryOfKey (tupKind))).map (·.val) = xs.map fun x => x.2.2
  | [], _ => ⟨.nil, rfl⟩
  | x :: xs, hx => by
    obtain ⟨i1, i2⟩ := pairsT_rep (ok' := ok') fun y hy => hx y (.tail _ hy)
    exact ⟨.cons (tup_rep (hx x (.head _))) i1, by simp only [List.map_cons, i2]; rfl⟩
theorem dict_raw {ks vs : List PV} {cv : Value} (r : VRep h ok (.dict ks vs) cv) :
    ∃ d es ep, cv = .ref d ∧ (d == sysModules) = false ∧ RawAt h d es ep ∧ ok d ∧ (∀ ok', VAll h ok' ks (es.toList.map (·.key))) ∧ VAll h ok vs (es.toList.map (·.val)) := by
  cases r with
  | dictT xs hk hd hds e ha =>
    obtain ⟨o, es, ep, h1, h2, h3, h4, h5, h6⟩ := hd
    subst e
    refine ⟨_, es, ep, rfl, hds, ⟨o, h1, h2, h3⟩, hk, fun ok' => ?_, ?_⟩
    · rw [h4]; exact (pairsT_rep h5).1
    · rw [h4, (pairsT_rep (ok' := ok) h5).2]; exact ha
  | dictA xs hk hd hds e ha =>
    obtain ⟨o, es, ep, h1, h2, h3, h4, h5, h6⟩ := hd
    subst e
    refine ⟨_, es, ep, rfl, hds, ⟨o, h1, h2, h3⟩, hk, fun ok' => (pairs_rep h5).1, ?_⟩
    rw [(pairs_rep (h := h) (ok' := ok) h5).2]; exact ha
theorem RawAt.inj {d : Addr} {es es' : Array DictEntry} {ep ep' : Nat} (x : RawAt h d es ep) (y : RawAt h d es' ep') : es = es' ∧ ep = ep' := by
  obtain ⟨o, h1, _, h2⟩ := x
  obtain ⟨o', h1', _, h2'⟩ := y
  rw [h1] at h1'; cases h1'
  rw [h2] at h2'; cases h2'
  exact ⟨rfl, rfl⟩
end
section
variable {A : Around} {s : Shared} {n : Nat} {pub : Pubs}
theorem RawAt.ne {d : Addr} {es : Array DictEntry} {ep : Nat} (x : RawAt s.heap d es ep) : d ≠ s.heap.objs.size := let ⟨_, e, _⟩ := x; Nat.ne_of_lt (Heap.lt_size e)
theorem RawAt.some {h : Heap} {d : Addr} {es : Array DictEntry} {ep : Nat} (x : RawAt h d es ep) : h.get? d ≠ none := let ⟨_, e, _⟩ := x; by rw [e]; simp
theorem RawAt.stays {h h' : Heap} {d : Addr} {es : Array DictEntry} {ep : Nat} (st : h.StaysIn h') (x : RawAt h d es ep) : RawAt h' d es ep := x.at fun o e => st d o e
theorem pack_keys {pl dk : Addr → Prop} {target : Expr} {l : List PV} {d : Addr} {es : Array DictEntry} {ep : Nat} {E : Value → Shared → Prop} {Q : Value → Shared → Prop} (rm : Room A n) (hd : (d == sysModules) = false) (hm : RawAt s.heap d es ep) (hk : dk d) (va : VAll s.heap pl l (es.toList.map (·.key)))
    (q : ∀ it s', Pack A s target pl dk l it s' → Q it s') : wpAny (model prog w) A (pyIter (.ref d)) Q E s := by
  have hlen : l.length = es.size := by have := va.length; simpa using this
  have hne := hm.ne
  have st := stays_push s.heap { cls := .type "dict_keyiterator", data := .fields #[.ref d, .int 0 0, .int es.size 0, .int ep 0] }
  have W : Walks prog w A s.heap.objs.size [s.heap.objs.size, d] [s.heap.objs.size] l.length (fun i v => (es.toList.map (·.key))[i]? = some v) (fun i h => h.IsKeyIter s.heap.objs.size d i es.size ep ∧ RawAt h d es ep) := by
    rw [hlen]; exact walks_keys rm.h hne
  refine raw_pyIter hd hm (q _ _ ⟨_, _, _, _, _, s.toks, rfl, rfl, st, turns_walks (vals := es.toList.map (·.key)) W (fun i v h => h) (fun i h x b hb => ?_) (fun i s v E Q x q => ?_), ⟨⟨⟨_, Heap.get?_push_size _ rfl, rfl, rfl⟩, hm.stays st⟩, (va.exist.stays st fun b o => ⟨o.1, fun e => o.2 (none_of_stays st e)⟩)⟩, fun b hb => ?_, fun b hb => ?_⟩)
  · rw [List.mem_singleton.mp hb]; obtain ⟨o, ho, _, hd⟩ := x.1; exact ⟨o, _, ho, hd⟩
  · obtain ⟨o, ho, hc, _⟩ := x.1; exact letGo_plain ho hc (by decide) q
  · rw [List.mem_singleton.mp hb]; exact fresh_none _
  · obtain ⟨hb1, hb2⟩ := hb
    have : b = d := by
      rcases List.mem_cons.mp hb1 with e | e
      · exact absurd (by simp [e]) hb2
      · exact List.mem_singleton.mp e
    subst this
    exact ⟨(hm.stays st).some, .inr hk⟩
theorem leaf_iterV {a : Bool × PV} {its : List PV} {cv : Value} {target : Expr} {E : Value → Shared → Prop} {Q : Value → Shared → Prop} (rm : Room A n) (e : itemsP a = some its) (rv : ∀ ok, Oks a.1 pub ok → VRep s.heap ok a.2 cv)
    (q : ∀ it s', Pack A s target pub.p pub.nw its it s' → Q it s') : wpAny (model prog w) A (pyIter cv) Q E s := by
  exact iterV_seq rm e (fun ks vs x => by obtain ⟨p, v⟩ := a; cases (show v = _ from x); exact noS e) rv q
end
end Mine
namespace Mine
open PySem PySem.Calls PyProof.Rows PySem.W PySem.SeqAt
section
variable {A : Around} {s : Shared} {n : Nat} {pub : Pubs}
theorem entry_itemiter : entryFor table "dict_itemiterator.__iter__" = some Builtin.«dict_keyiterator.__iter__» :=
  entryFor_alias (id' := "dict_keyiterator.__iter__") (by kernel_rfl) rfl (by decide +kernel) (by kernel_rfl)
theorem size_free (h : Heap) {h1 : Heap} (st : h.StaysIn h1) : h.get? h1.objs.size = none := none_of_stays st (fresh_none _)
theorem pack_vals {pl dk : Addr → Prop} {target : Expr} {l : List PV} {d v : Addr} {es : Array DictEntry} {ep tk : Nat} {h1 : Heap} {E : Value → Shared → Prop} {Q : Value → Shared → Prop} (rm : Room A n) (st1 : s.heap.StaysIn h1) (hv : h1.IsValuesView v d) (hm : RawAt s.heap d es ep) (hk : dk d) (va : VAll s.heap pl l (es.toList.map (·.val)))
    (q : ∀ it s', Pack A s target pl dk l it s' → Q it s') : wpAny (model prog w) A (pyIter (.ref v)) Q E { s with heap := h1, toks := tk } := by
  have hlen : l.length = es.size := by have := va.length; simpa using this
  have hm1 := hm.stays st1
  have hne : d ≠ h1.objs.size := RawAt.ne (s := { s with heap := h1 }) hm1
  have st := stays_trans st1 (stays_push h1 { cls := .type "dict_valueiterator", data := .fields #[.ref d, .int 0 0, .int es.size 0, .int ep 0] })
  have W : Walks prog w A h1.objs.size [h1.objs.size, d] [h1.objs.size] l.length (fun i v => (es.toList.map (·.val))[i]? = some v) (fun i h => h.IsValIter h1.objs.size d i es.size ep ∧ RawAt h d es ep) := by
    rw [hlen]; exact walks_vals rm.h hne
  refine raw_pyIter_vals (s := { s with heap := h1, toks := tk }) hv hm1 (q _ _ ⟨_, _, _, _, _, tk, rfl, rfl, st, turns_walks (vals := es.toList.map (·.val)) W (fun i v h => h) (fun i h x b hb => ?_) (fun i s v E Q x q => ?_), ⟨⟨⟨_, Heap.get?_push_size _ rfl, rfl, rfl⟩, hm.stays st⟩, (va.exist.stays st fun b o => ⟨o.1, fun e => o.2 (none_of_stays st e)⟩)⟩, fun b hb => ?_, fun b hb => ?_⟩)
  · rw [List.mem_singleton.mp hb]; obtain ⟨o, ho, _, hd⟩ := x.1; exact ⟨o, _, ho, hd⟩
  · obtain ⟨o, ho, hc, _⟩ := x.1; exact letGo_plain ho hc (by decide) q
  · rw [List.mem_singleton.mp hb]; exact size_free _ st1
  · obtain ⟨hb1, hb2⟩ := hb
    have : b = d := by
      rcases List.mem_cons.mp hb1 with e | e
      · exact absurd (by simp [e]) hb2
      · exact List.mem_singleton.mp e
    subst this
    exact ⟨(hm.stays st).some, .inr hk⟩
theorem pairsOf_get : ∀ {ks vs : List PV} {cks cvs : List Value} {h : Heap} {ok ok' : Addr → Prop} {i : Nat} {x : PV}, VAll h ok ks cks → VAll h ok' vs cvs → (pairsOf ks vs)[i]? = some x →
    ∃ a b ca cb, x = .tup [a, b] ∧ cks[i]? = some ca ∧ cvs[i]? = some cb ∧ VRep h ok a ca ∧ VRep h ok' b cb
  | _, _, _, _, _, _, _, i, x, .nil, _, e => by simp [pairsOf] at e
  | _, _, _, _, _, _, _, i, x, .cons _ _, .nil, e => by simp [pairsOf] at e
  | _, _, _, _, _, _, _, i, x, .cons a r, .cons b t, e => by
    cases i with
    | zero => simp [pairsOf] at e; exact ⟨_, _, _, _, e.symm, rfl, rfl, a, b⟩
    | succ i =>
      have e' := e
      simp only [pairsOf, List.getElem?_cons_succ] at e'
      obtain ⟨a1, b1, ca, cb, h1, h2, h3, h4, h5⟩ := pairsOf_get r t e'
      exact ⟨a1, b1, ca, cb, h1, by simpa using h2, by simpa using h3, h4, h5⟩
theorem pairsOf_len : ∀ {ks vs : List PV}, ks.length = vs.length → (pairsOf ks vs).length = ks.length
  | [], _, _ => rfl
  | _ :: ks, [], e => by simp at e
  | _ :: ks, _ :: vs, e => by simp only [pairsOf, List.length_cons]; rw [pairsOf_len (by simpa using e)]
theorem turns_items {target : Expr} {it d : Addr} {es : Array DictEntry} {ep : Nat} {ks vs : List PV} {pi : Addr → Prop} (ht : isTupT target = true) (hh : A.handled = none) (hne : d ≠ it) (hk : ks.length = es.size) (hv : vs.length = es.size) :
    Turns A target it pi (fun a => a = it) (fun a => a = d) (pairsOf ks vs) (fun i h => ((∃ ok ov, IsItemIter h it d i es.size ep ok ov) ∧ RawAt h d es ep) ∧ VAll h pi ks (es.toList.map (·.key)) ∧ VAll h pi vs (es.toList.map (·.val))) where
  frame := fun V i h h' hpi hwr hdep kp st => by
    obtain ⟨⟨⟨ok, ov, a⟩, b⟩, c, e⟩ := st
    exact ⟨⟨⟨ok, ov, kp _ _ a (.inl (hwr it rfl))⟩, b.at fun o x => kp _ _ x (.inl (hdep d rfl))⟩, c.kp kp fun a o => ⟨hpi a o, o⟩, e.kp kp fun a o => ⟨hpi a o, o⟩⟩
  it := fun i h a st ha => by
    obtain ⟨⟨⟨ok, ov, x⟩, _⟩, _⟩ := st
    rw [ha]; exact ⟨_, _, x, rfl⟩
  item := fun i x s E Q hx st q => by
    obtain ⟨⟨⟨ok, ov, a⟩, b⟩, c, e⟩ := st
    have hlt : i < es.size := by have := (List.getElem?_eq_some_iff.mp hx).1; rw [pairsOf_len (hk.trans hv.symm)] at this; (first | with_reducible exact Nat.le_trans (by assumption) (by decide) | lia | omega)
    refine raw_next_item a b hlt fun h1 a1 t1 k1 => ⟨_, rfl, ?_⟩
    cases target with
    | Tuple elts x1 pos =>
      refine wpAny_letOwnedTupleGo_items (s := { s with heap := h1 }) a1 fun h2 a2 k2 => ?_
      have hil : it < s.heap.objs.size := Heap.lt_size a
      have kk : ∀ b o, ¬ (b = it) → s.heap.get? b = some o → h2.get? b = some o := fun b o hb y => k2.extBut b o hb (k1 b o hb y)
      have kp : Kp (fun a => a = it) s.heap h2 := kp_its (fun y hy => by rw [hy]; exact ⟨_, _, a, rfl⟩) kk
      have no : ∀ y, pi y ∧ Cont s.heap y → ¬ y = it ∧ pi y := fun y o => ⟨fun hy => by subst hy; exact ItOb.not o.2.mut ⟨_, _, a, rfl⟩, o.1⟩
      have c2 := c.here.kp kp no
      have e2 := e.here.kp kp no
      have t2 := k2.extBut _ _ (Nat.ne_of_gt hil) t1
      refine q _ h2 s.toks ?_ ⟨⟨⟨_, _, a2⟩, b.at fun o y => kk d o hne y⟩, c2, e2⟩ kk
      obtain ⟨a', b', ca, cb, rfl, h1', h2', r1, r2⟩ := pairsOf_get c2 e2 hx
      have g1 : ca = es[i].key := by simpa [hlt] using h1'.symm
      have g2 : cb = es[i].val := by simpa [hlt] using h2'.symm
      subst g1; subst g2
      exact .tup ⟨_, t2⟩ (.cons r1 (.cons r2 .nil))
    | _ => cases ht
  done := fun s E Q st q => by
    obtain ⟨⟨⟨ok, ov, a⟩, b⟩, c, e⟩ := st
    rw [pairsOf_len (hk.trans hv.symm), hk] at a
    exact raw_end_item hh a b fun h' k => q h' s.toks k
  self := fun i s E Q st q => by
    obtain ⟨⟨⟨ok, ov, a⟩, b⟩, c, e⟩ := st
    have hT : s.TypeIs (.ref it) "dict_itemiterator" := ⟨_, a, rfl⟩
    refine wpAny_pyIter_slot hT F.slot_dict_itemiterator_iter (wpAny_call_entry F.slot_dict_itemiterator_iter hT entry_itemiter ?_ (F.args_dict_itemiterator_iter_1 _))
    exact wpAny_pure ⟨_, rfl, "dict_itemiterator", _, hT, F.slot_dict_itemiterator_next.lookup, q⟩
end
end Mine
namespace Mine
open PySem PySem.Calls PyProof.Rows PySem.W PySem.SeqAt
section
variable {A : Around} {s : Shared} {n : Nat} {pub : Pubs}
theorem pack_items {pl dk : Addr → Prop} {target : Expr} {ks vs : List PV} {d v : Addr} {es : Array DictEntry} {ep tk : Nat} {h1 : Heap} {E : Value → Shared → Prop} {Q : Value → Shared → Prop} (rm : Room A n) (ht : isTupT target = true) (st1 : s.heap.StaysIn h1) (hv : h1.IsItemsView v d) (hm : RawAt s.heap d es ep) (hk : dk d)
    (va : VAll s.heap pl ks (es.toList.map (·.key))) (vb : VAll s.heap pl vs (es.toList.map (·.val)))
    (q : ∀ it s', Pack A s target pl dk (pairsOf ks vs) it s' → Q it s') : wpAny (model prog w) A (pyIter (.ref v)) Q E { s with heap := h1, toks := tk } := by
  have hlen : ks.length = es.size := by have := va.length; simpa using this
  have hlen' : vs.length = es.size := by have := vb.length; simpa using this
  have hm1 := hm.stays st1
  have hne : d ≠ h1.objs.size := RawAt.ne (s := { s with heap := h1 }) hm1
  have st := stays_trans st1 (stays_push h1 { cls := .type "dict_itemiterator", data := .fields #[.none, .bool false, .ref d, .int 0 0, .int es.size 0, .int ep 0, .none, .none] })
  have ex : ∀ {l : List PV} {vs : List Value}, VAll s.heap pl l vs → VAll _ (fun a => pl a ∧ (h1.push { cls := .type "dict_itemiterator", data := .fields #[.none, .bool false, .ref d, .int 0 0, .int es.size 0, .int ep 0, .none, .none] }).get? a ≠ none) l vs :=
    fun va => va.exist.stays st fun b o => ⟨o.1, fun e => o.2 (none_of_stays st e)⟩
  refine raw_pyIter_items (s := { s with heap := h1, toks := tk }) hv hm1 (q _ _ ⟨_, _, _, _, _, tk, rfl, rfl, st, turns_items ht rm.h hne hlen hlen', ⟨⟨⟨_, _, Heap.get?_push_size _ rfl⟩, hm.stays st⟩, ex va, ex vb⟩, fun b hb => ?_, fun b hb => ?_⟩)
  · rw [hb]; exact size_free _ st1
  · rw [hb]; exact ⟨(hm.stays st).some, .inr hk⟩
theorem leaf_view {a : Bool × PV} {tup : Bool} {name : Str} {its : List PV} {co : Value} {target : Expr} {E : Value → Shared → Prop} {Q : Value → Shared → Prop} (rm : Room A n) (e : viewP tup name a = some its) (ht : tup = true → isTupT target = true) (rv : ∀ ok, Oks a.1 pub ok → VRep s.heap ok a.2 co)
    (q : ∀ it s', Pack A s target pub.p pub.nw its it s' → Q it s') : MethOf s name co fun id => wpAny (model prog w) A (call (.builtin id) [co]) (fun cv s₁ => wpAny (model prog w) A (pyIter cv) Q E s₁) E s := by
  obtain ⟨p, v⟩ := a
  cases v with
  | dict ks vs =>
    have e' : (if (p || PV.imms vs) = true then (if strEq name "items" then (if tup then some (pairsOf ks vs) else none) else if strEq name "values" then some vs else none) else none) = some its := e
    split at e'
    · rename_i hc
      obtain ⟨d, es, ep, rfl, hds, hm, hk, hks, hvs⟩ := dict_raw (rv _ .N)
      have hvs' : VAll s.heap pub.p vs (es.toList.map (·.val)) := by
        simp only [Bool.or_eq_true] at hc
        rcases hc with hc | hc
        · obtain ⟨d', es', ep', e1, _, hm', _, _, hvs'⟩ := dict_raw (rv _ (.inr (.inr ⟨hc, rfl⟩)))
          cases e1
          rw [(hm.inj hm').1]; exact hvs'
        · exact imms_any hc hvs
      have hex : ∀ b, Value.ref d = .ref b → ∃ ob, s.heap.get? b = some ob ∧ ob.dict = none := fun b eb => by
        cases eb
        obtain ⟨o, h1, h2, _⟩ := hm
        exact ⟨o, h1, h2.2.1⟩
      split at e'
      · rename_i hn
        split at e'
        · rename_i htup
          cases e'
          have hn' : name = "items" := Str.ext_list (beq_iff_eq.mp hn)
          subst hn'
          refine ⟨"dict", "dict.items", F.plainAttrs_dict, F.slot_dict_items, F.type_dict_items, hm.typeIs, hex, ?_⟩
          refine call_meetsIn F.slot_dict_items hm.typeIs F.entry_dict_items (F.args_dict_items_1 _) (meets_items_raw d hds) ⟨⟨_, _, hm⟩, ?_⟩
          exact pack_items (s := s) rm (ht htup) (stays_push _ _) ⟨_, Heap.get?_push_size _ rfl, rfl, rfl⟩ hm hk (hks _) hvs' q
        · cases e'
      · split at e'
        · rename_i hn
          cases e'
          have hn' : name = "values" := Str.ext_list (beq_iff_eq.mp hn)
          subst hn'
          refine ⟨"dict", "dict.values", F.plainAttrs_dict, F.slot_dict_values, F.type_dict_values, hm.typeIs, hex, ?_⟩
          refine call_meetsIn F.slot_dict_values hm.typeIs F.entry_dict_values (F.args_dict_values_1 _) (meets_values_raw d hds) ⟨⟨_, _, hm⟩, ?_⟩
          exact pack_vals (s := s) rm (stays_push _ _) ⟨_, Heap.get?_push_size _ rfl, rfl, rfl⟩ hm hk hvs' q
        · cases e'
    · cases e'
  | _ => cases e
end
end Mine
namespace Mine
open PySem PySem.Calls PyProof.Rows PySem.W PySem.SeqAt
section
variable {A : Around} {s : Shared} {n : Nat} {pub : Pubs}
theorem leaf_sumV {a : Bool × PV} {name : Str} {l : List PV} {r : PV} {co : Value} {E : Value → Shared → Prop} {Q : Value → Shared → Prop} (rm : Room A n) (e : viewP false name a = some l) (er : biIt .sum l = some r) (rv : VRep s.heap (fun _ => True) a.2 co)
    (q : ∀ cv h' tk, s.heap.StaysIn h' → (∀ ok, Oks true pub ok → VRep h' ok r cv) → Q cv { s with heap := h', toks := tk }) : MethOf s name co fun id => wpAny (model prog w) A (call (.builtin id) [co]) (fun cv s₁ => wpAny (model prog w) A (call (.builtin "sum") [cv]) Q E s₁) E s := by
  obtain ⟨p, v⟩ := a
  cases v with
  | dict ks vs =>
    have e' : (if (p || PV.imms vs) = true then (if strEq name "items" then (if false = true then some (pairsOf ks vs) else none) else if strEq name "values" then some vs else none) else none) = some l := e
    split at e'
    · obtain ⟨d, es, ep, rfl, hds, hm, hk, hks, hvs⟩ := dict_raw rv
      have hex : ∀ b, Value.ref d = .ref b → ∃ ob, s.heap.get? b = some ob ∧ ob.dict = none := fun b eb => by
        cases eb
        obtain ⟨o, h1, h2, _⟩ := hm
        exact ⟨o, h1, h2.2.1⟩
      split at e'
      · simp at e'
      · split at e'
        · rename_i hn
          cases e'
          have hn' : name = "values" := Str.ext_list (beq_iff_eq.mp hn)
          subst hn'
          refine ⟨"dict", "dict.values", F.plainAttrs_dict, F.slot_dict_values, F.type_dict_values, hm.typeIs, hex, ?_⟩
          refine call_meetsIn F.slot_dict_values hm.typeIs F.entry_dict_values (F.args_dict_values_1 _) (meets_values_raw d hds) ⟨⟨_, _, hm⟩, ?_⟩
          obtain ⟨k, hk2, er'⟩ := bnd (show (sumL 0 l).bind (fun i => some (PV.int i)) = some r from er)
          cases er'
          obtain ⟨h1, h2⟩ := sumL_pre hk2
          have hlen : l.length = es.size := by have := hvs.length; simpa using this
          have st1 := stays_push s.heap { cls := .type "dict_values", data := .fields #[.ref d] }
          generalize hg : s.heap.push { cls := .type "dict_values", data := .fields #[.ref d] } = g1 at st1
          have hv : g1.IsValuesView s.heap.objs.size d := by rw [← hg]; exact ⟨_, Heap.get?_push_size _ rfl, rfl, rfl⟩
          have hm1 := hm.stays st1
          have hne : d ≠ g1.objs.size := RawAt.ne (s := { s with heap := g1 }) hm1
          have hlt : d < g1.objs.size := by obtain ⟨o, e, _⟩ := hm1; exact Heap.lt_size e
          have st2 := stays_push g1 { cls := .type "dict_valueiterator", data := .fields #[.ref d, .int 0 0, .int es.size 0, .int ep 0] }
          refine call_sum_walkG (raw_pyIter_vals (s := { s with heap := g1 }) hv hm1 ?_)
          refine ⟨_, _, _, _, _, _, intAt l, rfl, walks_vals (A := A.in1) (it := g1.objs.size) rm.h hne, ⟨⟨_, Heap.get?_push_size _ rfl, rfl, rfl⟩, hm1.stays st2⟩, fun b hb => ?_, fun i v hv => ?_, fun h' tk t' kp => ?_⟩
          · show b < (g1.push _).objs.size
            rw [Heap.size_push]
            rcases List.mem_cons.mp hb with e | e
            · rw [e]; exact Nat.lt_succ_self _
            · rw [List.mem_singleton.mp e]; exact Nat.lt_succ_of_lt hlt
          · obtain ⟨x, hx, rx⟩ := hvs.get' hv
            rw [h2 i x hx] at rx
            exact rx.int_inv
          · have : preSum (intAt l) es.size = k := by rw [← hlen]; (first | with_reducible exact Nat.le_trans (by assumption) (by decide) | lia | omega)
            rw [this]
            exact q _ h' tk (fun b o e => kp b o (fun hmm => by rw [List.mem_singleton.mp hmm, size_free _ st1] at e; cases e) (st2 b o (st1 b o e))) fun _ _ => .int _ _
        · cases e'
    · cases e'
  | _ => cases e
end
end Mine
namespace Mine
open PySem PySem.Calls PyProof.Rows PySem.W PySem.SeqAt
section
variable {A : Around} {s : Shared} {n : Nat} {pub : Pubs}
theorem leaf_meth2 {name : Str} {o x y r : PV} {co : Value} (rm : Room A n) (e : meth2 name o x y = some r) (ro : VRep s.heap (fun _ => True) o co) :
    MethOf s name co fun id => ∀ h' tk cx cy, s.heap.StaysIn h' → VRep h' (fun _ => True) x cx → VRep h' (fun _ => True) y cy → Gets A { s with heap := h', toks := tk } (call (.builtin id) [co, cx, cy]) (Oks true pub) r := by
  obtain ⟨hn, e⟩ := onlyIf e
  obtain rfl : name = "get" := strEq_iff.mp hn
  obtain ⟨⟨ks, vs⟩, ho, e⟩ := bnd e
  obtain rfl := dictL2_eq ho
  obtain ⟨hc, e2⟩ := onlyIf (show (bif keyP x && PV.imms vs && y.imm then (getD2 x ks vs).bind fun o => some (o.getD y) else none) = some r from e)
  obtain ⟨hc, hy⟩ := two hc
  obtain ⟨hk, hvs⟩ := two hc
  obtain ⟨o, hg, e2⟩ := bnd e2
  obtain ⟨d, es, ep, rfl, hds, hm, _, _, _⟩ := dict_raw ro
  have hex : ∀ b, Value.ref d = .ref b → ∃ ob, s.heap.get? b = some ob ∧ ob.dict = none := fun b eb => by
    cases eb
    obtain ⟨o, h1, h2, _⟩ := hm
    exact ⟨o, h1, h2.2.1⟩
  refine ⟨"dict", "dict.get", F.plainAttrs_dict, F.slot_dict_get, F.type_dict_get, hm.typeIs, hex, fun h' tk cx cy st rx ry => ?_⟩
  have hm' := hm.stays st
  have hu : A.units + 4 < cLine := by have := rm.u; omega
  obtain ⟨a, ea, hds', dv⟩ := dicts (Ok := fun ok => ok = fun _ => True) (h := h') rfl (fun ok o => by subst o; exact ro.stays st fun _ x => x)
  cases ea
  cases kview dv hk rx hg with
  | T as x1 e1 e2' hk' xs hd e' ha =>
    subst e1; subst e2'; subst e'
    have hv : ∀ ok, VAll h' ok vs (xs.map fun x => x.2.2) := fun ok => imms_any hvs (ha _ rfl).2
    have run : ∀ {E : Value → Shared → Prop} {Q : Value → Shared → Prop}, Q (((atKey xs as).map (·.2)).getD cy) { s with heap := h', toks := tk + (tupKind).draws as } → wpAny (model prog w) A (call (.builtin "dict.get") [.ref d, .ref x1, cy]) Q E { s with heap := h', toks := tk } :=
      fun q => call_meetsIn F.slot_dict_get hm'.typeIs F.entry_dict_get (F.args_dict_get_3 _ _ _) (meetsH_dict_get_default (tupKind) d x1 hds cy) ⟨by show A.in1.units < cLine; show A.units + 1 < cLine; omega, as, xs, hk', hd, q⟩
    refine .tok (cv := ((atKey xs as).map (·.2)).getD cy) (fun ok _ => ?_) fun E Q q => run (q _)
    have := atKey_sound (hv ok) hg
    cases o with
    | none => cases e2; simp only at this; rw [this]; exact imm_any hy ry
    | some v => cases e2; obtain ⟨p, hp, hr⟩ := this; rw [hp]; exact hr
  | A k' e1 hk' xs hd e' ha =>
    subst e1; subst e'
    have hv : ∀ ok, VAll h' ok vs (xs.map fun x => x.2) := fun ok => imms_any hvs (ha _ rfl).2
    have run : ∀ {E : Value → Shared → Prop} {Q : Value → Shared → Prop}, Q ((valueAt xs k').getD cy) { s with heap := h', toks := tk + 1 } → wpAny (model prog w) A (call (.builtin "dict.get") [.ref d, cx, cy]) Q E { s with heap := h', toks := tk } :=
      fun q => call_meetsIn F.slot_dict_get hm'.typeIs F.entry_dict_get (F.args_dict_get_3 _ _ _) (meets_dict_get_default (atomKind) d hk' hds cy) ⟨_, hd.mapOf, q⟩
    refine .tok (cv := (valueAt xs k').getD cy) (fun ok _ => ?_) fun E Q q => run (q _)
    have := valueAt_sound (hv ok) hg
    cases o with
    | none => cases e2; simp only at this; rw [this]; exact imm_any hy ry
    | some v => cases e2; obtain ⟨p, hp, hr⟩ := this; rw [hp]; exact hr
end
end Mine
namespace Mine
open PySem PySem.Calls PyProof.Rows PySem.W PySem.SeqAt
section
variable {A : Around} {s : Shared} {n : Nat} {pub : Pubs}
theorem meets_len_raw (d : Addr) (hd : (d == sysModules) = false) :
    MeetsIn prog w (Builtin.«dict.__len__» ⟨[.ref d], []⟩) (fun _ R s => ∃ es ep, RawAt s.heap d es ep ∧ R (.ok (.ret (.int es.size s.toks))) { s with toks := s.toks + 1 }) :=
  .of_wp fun A R s ⟨es, ep, hm, h⟩ => by
    obtain ⟨o, ho, hc, hdat⟩ := hm
    show wpAny _ _ (dictSize d >>= _) _ _ s
    unfold dictSize
    refine wpAny_bind (wpAny_bind (wpAny_dictEntries ho hdat (wpAny_pure ?_)))
    show wpAny _ _ (Builtin.Dict.pendingCount d >>= _) _ _ s
    refine wpAny_bind (wpAny_pendingCount_other hd ?_)
    refine wpAny_ret_mkInt ?_
    rw [Nat.add_zero]; exact h
theorem len_raw {d : Addr} {es : Array DictEntry} {ep : Nat} {E : Value → Shared → Prop} {Q : Value → Shared → Prop} (hd : (d == sysModules) = false) (hm : RawAt s.heap d es ep) (hfit : (es.size : Int) < 2 ^ 63)
    (h : Q (.int es.size (s.toks + 1)) { s with toks := s.toks + 1 + 1 }) : wpAny (model prog w) A (call (.builtin "len") [.ref d]) Q E s := by
  refine Calls.call_function_entry kind_len plain_len entry_len (args_len1 _) ?_
  unfold Builtin.«len»
  refine wpAny_bind (m := oneArg "len" _) (wpAny_pure ?_)
  refine wpAny_bind (m := callSpecial? (.ref d) (Str.ofString "__len__")) (wpAny_callSpecial?_slot (name := Str.ofString "__len__") hm.typeIs F.slot_dict_len
    (call_meetsIn F.slot_dict_len hm.typeIs F.entry_dict_len (F.args_dict_len_1 _) (meets_len_raw d hd) ⟨es, ep, hm, ?_⟩))
  show wpAny _ _ _ _ _ { s with toks := s.toks + 1 }
  refine wpAny_bind (wpAny_holding (wpAny_pure (wpAny_bind (wpAny_letGo ?_))))
  show wpAny _ _ (if ((es.size : Nat) : Int) < 0 then _ else _) _ _ _
  rw [if_neg (by (first | with_reducible exact Nat.le_trans (by assumption) (by decide) | lia | omega))]
  show wpAny _ _ (if ((es.size : Nat) : Int) ≥ 2 ^ 63 then _ else _) _ _ _
  rw [if_neg (by (first | with_reducible exact Nat.le_trans (by assumption) (by decide) | lia | omega))]
  exact wpAny_bind (wpAny_mkInt (wpAny_pure ⟨_, rfl, h⟩))
end
end Mine
namespace Mine
open PySem PySem.Calls PyProof.Rows PySem.W PySem.SeqAt
section
variable {A : Around} {s : Shared} {n : Nat} {pub : Pubs}
end
end Mine
namespace Mine
open PySem PySem.Calls PyProof.Rows PySem.W PySem.SeqAt
section
variable {A : Around} {s : Shared} {n : Nat} {pub : Pubs}
end
end Mine
namespace Mine
open PySem PySem.Calls PyProof.Rows PySem.W PySem.SeqAt
section
variable {A : Around} {s : Shared} {n : Nat} {pub : Pubs}
theorem enumFrom_get : ∀ {l : List PV} {k i : Nat}, (enumFrom k l)[i]? = (l[i]?).map fun x => PV.tup [.int ((k + i : Nat) : Int), x]
  | [], k, i => by simp [enumFrom]
  | x :: l, k, 0 => by simp [enumFrom]
  | x :: l, k, i + 1 => by
    simp only [enumFrom, List.getElem?_cons_succ]
    rw [enumFrom_get]
    have : k + 1 + i = k + (i + 1) := by (first | with_reducible exact Nat.le_trans (by assumption) (by decide) | lia | omega)
    rw [this]
theorem enumFrom_len : ∀ {l : List PV} {k : Nat}, (enumFrom k l).length = l.length
  | [], _ => rfl
  | x :: l, k => by simp only [enumFrom, List.length_cons]; rw [enumFrom_len]
theorem turns_enum {target : Expr} {e it : Addr} {fp : List Addr} {P : Nat → Value → Prop} {St : Nat → Heap → Prop} {X : Heap → Prop} {l : List PV} {pi : Addr → Prop} (ht : isTupT target = true) (D : Draws prog w A.in1 it fp l.length P St) (hei : e ≠ it) (hef : e ∉ fp)
    (hP : ∀ i v x h, X h → l[i]? = some x → P i v → VRep h pi x v)
    (hX : ∀ (V : Addr → Prop) h h', X h → (∀ a, pi a → Cont h a → ¬ V a) → Kp V h h' → X h')
    (hob : ∀ i h, St i h → ItOb h it) (dep : Addr → Prop) (hfp : ∀ i h, St i h → ∀ b ∈ fp, b = it ∨ dep b ∨ ∃ o, h.get? b = some o ∧ isTupObj o) (hde : ∀ b, dep b → b ≠ e) (hdi : ∀ b, dep b → b ≠ it) :
    Turns A target e pi (fun a => a = e ∨ a = it) dep (enumFrom 0 l) (fun i h => ((∃ old, IsEnum h e it i old) ∧ St i h) ∧ X h) where
  frame := fun V i h h' hpi hwr hdep kp st => by
    obtain ⟨⟨⟨old, a⟩, b⟩, c⟩ := st
    refine ⟨⟨⟨old, kp _ _ a (.inl (hwr e (.inl rfl)))⟩, D.frame _ _ _ b fun y hy o eo => kp y o eo ?_⟩, hX V h h' c (fun a o _ => hpi a o) kp⟩
    rcases hfp i h b y hy with rfl | hd | ⟨o', e', t⟩
    · exact .inl (hwr _ (.inr rfl))
    · exact .inl (hdep y hd)
    · rw [eo] at e'; cases e'; exact .inr t
  it := fun i h a st ha => by
    obtain ⟨⟨⟨old, x⟩, y⟩, _⟩ := st
    rcases ha with rfl | rfl
    · exact ⟨_, _, x, rfl⟩
    · exact hob i h y
  item := fun i x s E Q hx st q => by
    obtain ⟨⟨⟨old, a⟩, b⟩, c⟩ := st
    rw [enumFrom_get] at hx
    cases hl : l[i]? with
    | none => rw [hl] at hx; cases hx
    | some y =>
    rw [hl] at hx
    cases hx
    have hlt : i < l.length := (List.getElem?_eq_some_iff.mp hl).1
    refine wpAny_pyNext_enum_itemD D a b hlt hei hef fun v h1 tk hv a1 b1 t1 _ k1 => ⟨_, rfl, ?_⟩
    cases target with
    | Tuple elts x1 pos =>
      refine wpAny_letOwnedTupleGo_enum (s := { s with heap := h1, toks := tk + 1 }) a1 fun h2 a2 k2 => ?_
      have hel : e < s.heap.objs.size := Heap.lt_size a
      have kk : ∀ b o, ¬ (b = e ∨ b = it) → s.heap.get? b = some o → h2.get? b = some o := fun b o hb y => k2.extBut b o (fun z => hb (.inl z)) (k1 b o (fun z => hb (.inl z)) (fun z => hb (.inr z)) y)
      have its : ∀ y, (y = e ∨ y = it) → ItOb s.heap y := fun y hy => by
        rcases hy with rfl | rfl
        · exact ⟨_, _, a, rfl⟩
        · exact hob i _ b
      have kp : Kp (fun a => a = e ∨ a = it) s.heap h2 := kp_its its kk
      have c2 := hX _ _ _ c (fun y _ hc hm => ItOb.not hc.mut (its y hm)) kp
      have t2 := k2.extBut _ _ (Nat.ne_of_gt hel) t1
      refine q _ h2 (tk + 1) ?_ ⟨⟨⟨_, by simpa using a2⟩, D.frame _ _ _ b1 fun y hy o eo => k2.extBut y o (fun z => hef (z ▸ hy)) eo⟩, c2⟩ kk
      refine .tup ⟨_, t2⟩ (.cons ?_ (.cons (hP i v y h2 c2 hl hv) .nil))
      rw [Nat.zero_add]; exact .int _ _
    | _ => cases ht
  done := fun s E Q st q => by
    obtain ⟨⟨⟨old, a⟩, b⟩, c⟩ := st
    rw [enumFrom_len] at a b
    exact wpAny_pyNext_enum_endD D a b fun h' k => q h' s.toks fun y o hy e' => k y o (fun z => hy (.inr z)) e'
  self := fun i s E Q st q => by
    obtain ⟨⟨⟨old, a⟩, b⟩, c⟩ := st
    exact wpAny_pyIter_enum a q
end
end Mine
namespace Mine
open PySem PySem.Calls PyProof.Rows PySem.W PySem.SeqAt
open AutoSeq1 (wpAny_loadPart')
open MeetsSeq MeetsSeq2 MeetsSeq3 SeqRoads2
section
variable {A : Around} {s : Shared} {n : Nat} {pub : Pubs}
end
end Mine
namespace Mine
open PySem PySem.Calls PyProof.Rows PySem.W PySem.SeqAt
open MeetsSeq
section
variable {h : Heap} {A : Around} {s : Shared} {n : Nat} {pub : Pubs}
theorem cnt_countP (c : Nat) : ∀ l : List Nat, cnt c l = (l.countP (· == c) : Nat)
  | [] => rfl
  | x :: l => by
    rw [cnt_cons, cnt_countP c l, List.countP_cons]
    by_cases hx : x = c
    · subst hx; simp; (first | with_reducible exact Nat.le_trans (by assumption) (by decide) | lia | omega)
    · have : ¬ c = x := fun e => hx e.symm
      simp [hx, this]
theorem joinP_strs : ∀ {l : List PV} {x : List Nat} {vs : List Value} {ok : Addr → Prop}, VAll h ok l vs → joinP l = some x → ∃ ys : List Str, StrsAre vs ys ∧ ys.length = l.length ∧ (ys.map (·.length)).sum = x.length ∧ (Str.join Str.empty ys).cps.toList = x
  | [], x, vs, ok, r, e => by rw [r.nil_inv]; cases (show some [] = some x from e); exact ⟨[], .nil, rfl, rfl, rfl⟩
  | y :: l, x, vs, ok, r, e => by
    obtain ⟨v, vs, rfl, r0, rr⟩ := r.cons_inv
    obtain ⟨a, ha, e2⟩ := bnd (show (strP y).bind (fun a => (joinP l).bind fun b => some (a ++ b)) = some x from e)
    rw [strP_eq ha] at r0
    obtain ⟨z, t, rfl, rfl⟩ := r0.str_inv
    obtain ⟨x', h1, e2⟩ := bnd e2
    cases e2
    obtain ⟨ys, i1, i2, i3, i4⟩ := joinP_strs rr h1
    refine ⟨z :: ys, .cons _ _ i1, congrArg (· + 1) i2, by rw [List.map_cons, List.sum_cons, i3, List.length_append, PySem.Str.length]; simp, ?_⟩
    cases ys with
    | nil =>
      have h0 : x' = [] := i4.symm
      rw [h0, List.append_nil]; rfl
    | cons y' ys' =>
      show (z ++ Str.empty ++ Str.join Str.empty (y' :: ys')).cps.toList = _
      rw [PySem.Str.append_empty, PySem.Str.cps_append, Array.toList_append, i4]
theorem count_str {l : List Nat} {x r : PV} {co : Value} (e : (strP x).bind (fun m => (match m with | [] => none | c :: q => match q with | [] => some (PV.int (l.countP (· == c))) | _ :: _ => none)) = some r) (ro : VRep s.heap (fun _ => True) (.str l) co) :
    MethOf s "count" co fun id => ∀ h' tk cx, s.heap.StaysIn h' → VRep h' (fun _ => True) x cx → Gets A { s with heap := h', toks := tk } (call (.builtin id) [co, cx]) (Oks true pub) r := by
  obtain ⟨m, hm, e2⟩ := bnd e
  obtain rfl := strP_eq hm
  match m, e2 with
  | [], e => exact noS e
  | _ :: _ :: _, e => exact noS e
  | [c], e =>
    cases e
    obtain ⟨z, t, rfl, rfl⟩ := ro.str_inv
    refine ⟨"str", "str.count", F.plainAttrs_str, F.slot_str_count, F.type_str_count, typeIs_str _ _ _, (fun a e => by cases e), fun h' tk cx st rx => ?_⟩
    obtain ⟨y, u, rfl, hy⟩ := rx.str_inv
    have : y = ⟨#[c]⟩ := Str.ext_list (by rw [hy])
    subst this
    refine .int fun E Q q => SC.count ?_
    rw [count_cnt, cnt_countP]
    exact q _ _
theorem join_strs {x o r : PV} {co : Value} (e : joinM x o = some r) (ro : VRep s.heap (fun _ => True) o co) :
    MethOf s "join" co fun id => ∀ h' tk cx, s.heap.StaysIn h' → VRep h' (fun _ => True) x cx → Gets A { s with heap := h', toks := tk } (call (.builtin id) [co, cx]) (Oks true pub) r := by
  obtain ⟨q, hq, e2⟩ := bnd e
  obtain rfl := strP_eq hq
  cases q with
  | cons => exact noS e2
  | nil =>
  obtain ⟨l, hl0, e3⟩ := bnd (show (listL x).bind (fun l => if szOk l.length = true then (joinP l).bind fun x => if szOk (l.length + x.length) = true then some (PV.str x) else none else none) = some r from e2)
  obtain rfl := listL_eq hl0
  obtain ⟨hz, e3⟩ := ifO e3
  obtain ⟨y, hy, e3⟩ := bnd e3
  obtain ⟨hz2, rfl⟩ := ifS e3
  obtain ⟨z, t, rfl, hzz⟩ := ro.str_inv
  obtain rfl : z = Str.empty := Str.ext_list (by rw [hzz]; rfl)
  refine ⟨"str", "str.join", F.plainAttrs_str, F.slot_str_join, F.type_str_join, typeIs_str _ _ _, (fun a e => by cases e), fun h' tk cx st rx => ?_⟩
  obtain ⟨a, items, rfl, o, hl, ha⟩ := rx.list_inv
  obtain ⟨ys, i1, i2, i3, i4⟩ := joinP_strs ha hy
  refine fun E Q q => join_listW hl.isList i1 (by decide) ?_ fun t' k => ?_
  · have := szOk_small hz2; rw [i2, i3]; (first | with_reducible exact Nat.le_trans (by assumption) (by decide) | lia | omega)
  · have e1 : Txt.join Str.empty ys = Str.join Str.empty ys := StrLaws.glued_eq_join _ _
    rw [e1]
    exact q _ h' k (stays_refl _) fun _ _ => .str _ _ i4
theorem leaf_meth1 {name : Str} {o x r : PV} {co : Value} (rm : Room A n) (e : meth1 name o x = some r) (ro : VRep s.heap (fun _ => True) o co) :
    MethOf s name co fun id => ∀ h' tk cx, s.heap.StaysIn h' → VRep h' (fun _ => True) x cx → Gets A { s with heap := h', toks := tk } (call (.builtin id) [co, cx]) (Oks true pub) r := by
  cases h1 : strEq name "count" with
  | true =>
    have e := (onlyT h1 e)
    obtain rfl := strEq_iff.mp h1
    cases o with
    | str l => exact count_str e ro
    | _ => exact noS e
  | false =>
    have e := (onlyF h1 e)
    cases h3 : strEq name "join" with
    | true => have e := onlyT h3 e; obtain rfl := strEq_iff.mp h3; exact join_strs e ro
    | false =>
    have e := onlyF h3 e
    exact noS e
end
end Mine
namespace Mine
open PySem PySem.Calls PyProof.Rows PySem.W PySem.SeqAt
section
variable {A : Around} {E : Value → Shared → Prop} {s : Shared}
theorem range_getD {α : Type} (vs : List α) (d : α) : ((List.range vs.length).map fun i => vs.getD i d) = vs := by
  refine List.ext_getElem? fun i => ?_
  rw [List.getElem?_map]
  by_cases h : i < vs.length
  · simp [h]
  · simp [h]
theorem kwp_runO {α : Type} {cmp : Nat → Nat → (Bool → Shared → Prop) → Shared → Prop} {lt : Nat → Nat → Option Bool} {s : Shared} (hc : ∀ i j b C, lt i j = some b → C b s → cmp i j C s) (Q : α → Shared → Prop) : ∀ {t : KasT α} {a : α}, krunO lt t = some a → Q a s → t.kasWp cmp Q s
  | .ret _, _, e, q => Option.some.inj e ▸ q
  | .ask _ _ _, _, e, q => let ⟨_, hb, e⟩ := bnd e; hc _ _ _ _ hb (kwp_runO hc Q e q)
theorem sort_own {a : Addr} {vs : List Value} {n : Nat} {κ : SortKind} {lt : Nat → Nat → Option Bool} {q : List Nat} {P : PySem.Fin → Shared → Prop} (ho : s.heap.get? a = some (seqObj "list" vs.toArray n)) (h64 : vs.length < 64)
    (hq : vs.length < 2 → q = List.range vs.length)
    (hk : 2 ≤ vs.length → ∃ p, krunO lt (kas_sort vs.length) = some p ∧ p.toList = q ∧ ∀ h' : Heap, (∀ b o, b ≠ a → s.heap.get? b = some o → h'.get? b = some o) → (∀ (E' : Value → Shared → Prop) (Q : SortKind → Shared → Prop), Q κ { s with heap := h' } → wpAny (model prog w) A (keyKind' vs.toArray) Q E' { s with heap := h' }) ∧
      ∀ i j b (C : Bool → Shared → Prop), lt i j = some b → C b { s with heap := h' } → kas_ask prog w A κ vs i j C { s with heap := h' })
    (h : ∀ h' c, (∀ b o, b ≠ a → s.heap.get? b = some o → h'.get? b = some o) → h'.get? a = some (seqObj "list" (q.map fun i => vs.getD i Value.none).toArray c) → P (.done (.ret .none)) { s with heap := h' }) :
    wpAny (model prog w) A (Builtin.«list.sort» ⟨[.ref a], []⟩) P E s := by
  have ha : a < s.heap.objs.size := Heap.lt_size ho
  obtain ⟨e1, ho1⟩ : ∃ e1, (s.heap.update a (Obj.mapSeq fun _ => (#[] : Array Value))).get? a = some (seqObj "list" #[] e1) := ⟨_, get?_update_seq ho fun _ => #[]⟩
  have keep : ∀ b o, b ≠ a → s.heap.get? b = some o → (((s.heap.update a (Obj.mapSeq fun _ => (#[] : Array Value))).push (seqObj "tuple" vs.toArray 0)).push (seqObj "list" #[] 0)).get? b = some o := fun b o hb e =>
    Heap.get?_push_of_some _ (Heap.get?_push_of_some _ ((Heap.get?_update_ne _ _ _ _ hb).trans e))
  have hoH : (((s.heap.update a (Obj.mapSeq fun _ => (#[] : Array Value))).push (seqObj "tuple" vs.toArray 0)).push (seqObj "list" #[] 0)).get? a = some (seqObj "list" #[] e1) := Heap.get?_push_of_some _ (Heap.get?_push_of_some _ ho1)
  have fin : ∀ (out : Array Value), out.toList = (q.map fun i => vs.getD i Value.none) →
      P (.done (.ret .none)) { s with heap := ((((s.heap.update a (Obj.mapSeq fun _ => (#[] : Array Value))).push (seqObj "tuple" vs.toArray 0)).push (seqObj "list" #[] 0)).update a (Obj.mapSeq fun _ => out)) } := fun out he => by
    have e2 := get?_update_seq hoH fun _ => out
    have e3 : out = (q.map fun i => vs.getD i Value.none).toArray := by rw [← he]
    exact h _ _ (fun b o hb e => (Heap.get?_update_ne _ _ _ _ hb).trans (keep b o hb e)) (by rw [← e3]; exact e2)
  generalize hH : ((s.heap.update a (Obj.mapSeq fun _ => (#[] : Array Value))).push (seqObj "tuple" vs.toArray 0)).push (seqObj "list" #[] 0) = H at *
  rw [list_sort_plain]
  refine wpAny_bind (listItems_at ho rfl ?_)
  refine wpAny_bind (listUpdate_at ho rfl ?_ (by rw [List.size_toArray, sizeLine_eq]; (first | with_reducible exact Nat.le_trans (by assumption) (by decide) | lia | omega)) (Nat.zero_le _))
  refine wpAny_bind (seqEpoch_at ho1 rfl ?_)
  refine wpAny_bind (wpAny_newTuple ?_ (by show vs.length ≤ _; rw [sizeLine_eq]; (first | with_reducible exact Nat.le_trans (by assumption) (by decide) | lia | omega)))
  refine wpAny_bind (wpAny_newList ?_ (Nat.zero_le _))
  refine wpAny_holding ?_
  dsimp only
  rw [hH]
  show wpAny (model prog w) A _ P E { s with heap := H }
  by_cases hn2 : vs.toArray.size < 2
  · rw [if_pos hn2, if_pos hn2]
    refine wpAny_bind (wpAny_pure ?_)
    rw [StateT.run_pure]
    refine wpAny_bind (wpAny_pure ?_)
    dsimp only
    refine wpAny_bind (seqEpoch_at hoH rfl ?_)
    refine wpAny_bind (listUpdate_at hoH rfl ?_ (Nat.zero_le _) (by rw [Array.size_map]; show (PyProof.Rows.pairsOf vs).size ≤ _; rw [pairsOf_size, sizeLine_eq]; (first | with_reducible exact Nat.le_trans (by assumption) (by decide) | lia | omega)))
    simp only [bne_self_eq_false, Bool.false_eq_true, if_false]
    refine wpAny_pure (fin _ ?_)
    rw [hq hn2, range_getD]
    show ((vs.toArray.zip vs.toArray).map (·.2)).toList = vs
    rw [Array.toList_map, Array.toList_zip, List.map_snd_zip (by simp)]
  · rw [if_neg hn2, if_neg hn2]
    have h2 : 2 ≤ vs.length := by rw [List.size_toArray] at hn2; (first | with_reducible exact Nat.le_trans (by assumption) (by decide) | lia | omega)
    obtain ⟨p, hp, rfl, hkA⟩ := hk h2
    obtain ⟨hkk, hask⟩ := hkA _ keep
    refine wpAny_bind (hkk _ _ ?_)
    refine wpAny_bind (wpAny_mono (kat_run (ks := vs) (κ := κ) (vs := vs) (Q := fun st' s' => s' = { s with heap := H } ∧
        (arrOf st' = p.map (kas_item (vs.toArray.zip vs.toArray)) ∧ p.size = vs.length) ∧ failedOf st' = none)
      (G := fun p' s' => p' = p ∧ s' = { s with heap := H })
      rfl h2 h64 (fun p' st' s' a1 a2 a3 a4 => ⟨a4.2, ⟨by rw [a2, a4.1], a4.1 ▸ a1⟩, a3⟩) (kwp_runO hask _ hp ⟨rfl, rfl⟩)) ?_ fun _ _ e => e)
    rintro ⟨⟨⟩, st'⟩ s' ⟨rfl, ⟨har, hsz⟩, hf⟩
    dsimp only
    have hout := kat_snds rfl har
    refine wpAny_bind (seqEpoch_at hoH rfl ?_)
    refine wpAny_bind (listUpdate_at hoH rfl ?_ (Nat.zero_le _) (by rw [hout, List.size_toArray, List.length_map, Array.length_toList, hsz, sizeLine_eq]; (first | with_reducible exact Nat.le_trans (by assumption) (by decide) | lia | omega)))
    rw [hf]
    simp only [bne_self_eq_false, Bool.false_eq_true, if_false]
    exact wpAny_pure (fin _ (by rw [hout]))
end
end Mine
namespace Mine
open PySem PySem.Calls PyProof.Rows PySem.W PySem.SeqAt
section
variable {A : Around} {s : Shared} {n : Nat} {pub : Pubs} {ok ok' : Addr → Prop}
theorem VAll.getD {h : Heap} {l : List PV} {vs : List Value} (r : VAll h ok l vs) {i : Nat} (hi : i < l.length) : VRep h ok (l.getD i .none) (vs.getD i Value.none) := by
  obtain ⟨v, hv, rv⟩ := r.get (show l[i]? = some l[i] from List.getElem?_eq_getElem hi)
  have e1 : l.getD i .none = l[i] := by simp [hi]
  have e2 : vs.getD i Value.none = v := by rw [List.getD_eq_getElem?_getD, hv]; rfl
  rw [e1, e2]; exact rv
theorem one_strs {x y : Str} {t u : Tok} {C : Bool → Shared → Prop} {c : Bool} {m : Nat} (e : ltN (m + 1) (.str x.cps.toList) (.str y.cps.toList) = some c) (h : C c s) {E : Value → Shared → Prop} : wpAny (model prog w) A (oneLt' true (.str x t) (.str y u)) C E s := by
  have e : natsLt x.cps.toList y.cps.toList = c := Option.some.inj e
  rw [natsLt_eq] at e
  exact oneLt_str (by rw [e]; exact h)
theorem isStrP_eq {x : PV} (h : isStrP x = true) : ∃ l, x = .str l := by cases x <;> first | exact ⟨_, rfl⟩ | cases h
theorem isInt_eq {x : PV} (h : isIntP x = true) : ∃ i, x = .int i := by cases x <;> first | exact ⟨_, rfl⟩ | cases h
theorem looks_int (M : Model) (h : Heap) (i : Int) (t : Tok) : Looks M h (typeOf (.int i t)) (.type "int") := Looks.of_pure rfl
theorem looks_str (M : Model) (h : Heap) (x : Str) (t : Tok) : Looks M h (typeOf (.str x t)) (.type "str") := Looks.of_pure rfl
theorem asks {l : List PV} (hk : kindOk l = true) (hu : A.units + 8 < cLine) : ∃ κ : SortKind, ∀ (s : Shared) (vs : List Value), VAll s.heap (fun _ => True) l vs → 2 ≤ vs.length →
    (∀ (E' : Value → Shared → Prop) (Q : SortKind → Shared → Prop), Q κ s → wpAny (model prog w) A (keyKind' vs.toArray) Q E' s) ∧
    ∀ i j b (C : Bool → Shared → Prop), askP l i j = some b → C b s → kas_ask prog w A κ vs i j C s := by
  have two : ∀ {P : PV → Bool} {vs : List Value} {s : Shared} {κ : SortKind}, l.all P = true → VAll s.heap (fun _ => True) l vs →
      (∀ x y u v c (C : Bool → Shared → Prop), P x = true → P y = true → VRep s.heap (fun _ => True) x u → VRep s.heap (fun _ => True) y v → PV.lt x y = some c → C c s → wpAny (model prog w) A (keyLt' κ u v) C (fun _ _ => False) s) →
      ∀ i j b (C : Bool → Shared → Prop), askP l i j = some b → C b s → kas_ask prog w A κ vs i j C s := fun {P vs s κ} h ha hlt i j b C e c => by
    obtain ⟨x, hx, e⟩ := bnd e
    obtain ⟨y, hy, e⟩ := bnd e
    obtain ⟨u, hu, ru⟩ := ha.get hx
    obtain ⟨v, hv, rv⟩ := ha.get hy
    unfold kas_ask
    rw [List.getD_eq_getElem?_getD, List.getD_eq_getElem?_getD, hu, hv]
    exact hlt x y u v b C (List.all_eq_true.mp h _ (List.mem_of_getElem? hx)) (List.all_eq_true.mp h _ (List.mem_of_getElem? hy)) ru rv e c
  have plain : ∀ {P : PV → Bool} {T : String}, l.all P = true → (Value.type T != Value.type "tuple") = true → (Value.type T == Value.type T) = true → (∀ x u h (M : Model), P x = true → VRep h (fun _ => True) x u → Looks M h (typeOf u) (.type T)) →
      (∀ x y u v (s : Shared) (C : Bool → Shared → Prop) c, P x = true → P y = true → VRep s.heap (fun _ => True) x u → VRep s.heap (fun _ => True) y v → PV.lt x y = some c → C c s → wpAny (model prog w) A (oneLt' true u v) C (fun _ _ => False) s) →
      ∀ (s : Shared) (vs : List Value), VAll s.heap (fun _ => True) l vs → 2 ≤ vs.length →
    (∀ (E' : Value → Shared → Prop) (Q : SortKind → Shared → Prop), Q oneType' s → wpAny (model prog w) A (keyKind' vs.toArray) Q E' s) ∧
    ∀ i j b (C : Bool → Shared → Prop), askP l i j = some b → C b s → kas_ask prog w A oneType' vs i j C s := fun {P T} h hT1 hT2 hlk hlt s vs ha h2 => by
    refine ⟨fun E' Q q => kas_kind h2 (fun v hv => ?_) hT1 hT2 q, two h ha fun x y u v c C hx hy ru rv e hc => ?_⟩
    · obtain ⟨i, hi⟩ := List.mem_iff_getElem?.mp hv
      obtain ⟨x, hx, rx⟩ := ha.get' hi
      exact hlk x v _ _ (List.all_eq_true.mp h _ (List.mem_of_getElem? hx)) rx
    · rw [keyLt'_oneType]
      exact hlt _ _ _ _ s C _ hx hy ru rv e hc
  unfold kindOk at hk
  refine ⟨oneType', plain (T := "str") hk (by decide) (by decide) (fun x u h M hx r => ?_) fun x y u v s C c hx hy rx ry e hc => ?_⟩
  · obtain ⟨i, rfl⟩ := isStrP_eq hx
    obtain ⟨z, t, rfl, _⟩ := r.str_inv
    exact looks_str _ _ _ _
  · obtain ⟨i, rfl⟩ := isStrP_eq hx
    obtain ⟨j, rfl⟩ := isStrP_eq hy
    obtain ⟨z, t, rfl, rfl⟩ := rx.str_inv
    obtain ⟨z', t', rfl, rfl⟩ := ry.str_inv
    exact one_strs (m := 5) e hc
end
end Mine
namespace Mine
open PySem PySem.Calls PyProof.Rows PySem.W PySem.SeqAt
section
variable {A : Around} {s : Shared} {n : Nat} {pub : Pubs} {ok ok' : Addr → Prop}
theorem kdl_raw {d : Addr} {es : Array DictEntry} {ep : Nat} (lo : (d == sysModules) = false) : KdlSrc prog w "dict" d d es.size (fun i v => (es.toList.map (·.key))[i]? = some v) (fun h => RawAt h d es ep) where
  type := fun _ hm => hm.typeIs
  there := fun _ hm => let ⟨_, e, _⟩ := hm; ⟨Heap.lt_size e, Heap.lt_size e⟩
  keep := fun _ _ hm hk => hm.at fun o e => hk d (.inl rfl) o e
  notList := by decide
  notTuple := by decide
  hint := fun _ _ _ _ hm hq => kdl_hint_dict hm.typeIs hq
  iter := fun _ _ hh hm => ⟨_, _, (fun _ _ hq => raw_pyIter lo hm hq), walks_keys hh (let ⟨_, e, _⟩ := hm; Nat.ne_of_lt (Heap.lt_size e)), ⟨⟨_, Heap.get?_push_size _ rfl, rfl, rfl⟩, hm.at fun o e => Heap.get?_push_of_some _ e⟩⟩
noncomputable def itemsOf : PV → Option (List PV)
  | .dict ks _ => some ks
  | _ => none
theorem collect_own {v : PV} {l : List PV} {cv : Value} {E : Value → Shared → Prop} {R : List Value → Shared → Prop} (hh : A.handled = none) (e : itemsOf v = some l) (hz : l.length < 64) (rv : VRep s.heap (fun _ => True) v cv)
    (q : ∀ h' tk us, s.heap.StaysIn h' → VAll h' (fun _ => True) l us → R us { s with heap := h', toks := tk }) : wpAny (model prog w) A (collect cv) R E s := by
  cases v with
  | dict ks vs =>
    cases e
    obtain ⟨d, es, ep, rfl, hds, hm, _, hks, _⟩ := dict_raw rv
    have va := hks fun _ => True
    have hlen : l.length = es.size := by have := va.length; simpa using this
    refine kdu_collect (kdl_raw (ep := ep) hds) hh hm (by rw [sizeLine_eq]; (first | with_reducible exact Nat.le_trans (by assumption) (by decide) | lia | omega)) fun h' tk acc st hi => q h' tk _ st ?_
    have e1 : acc.toList = es.toList.map (·.key) := by
      refine List.ext_getElem? fun i => ?_
      by_cases hlt : i < acc.size
      · have h1 : acc[i]? = some acc[i] := Array.getElem?_eq_getElem hlt
        rw [Array.getElem?_toList, h1]
        exact (hi.2 i _ h1).symm
      · rw [Array.getElem?_toList, Array.getElem?_eq_none (by (first | with_reducible exact Nat.le_trans (by assumption) (by decide) | lia | omega)), List.getElem?_eq_none (by have := hi.1; simp; (first | with_reducible exact Nat.le_trans (by assumption) (by decide) | lia | omega))]
    rw [e1]
    exact va.stays st fun _ x => x
  | _ => cases e
theorem sortP_is {l : List PV} {v : PV} (e : sortP l = some v) : PV.imms l = true ∧ l.length < 64 ∧ ∃ q, v = .list (q.map fun i => l.getD i .none) ∧ (l.length < 2 → q = List.range l.length) ∧ (2 ≤ l.length → kindOk l = true ∧ ∃ p, krunO (askP l) (kas_sort l.length) = some p ∧ p.toList = q) := by
  obtain ⟨hc, e⟩ := ifO e
  obtain ⟨h1, h2⟩ := two hc
  obtain ⟨q, hq, e⟩ := bnd e
  refine ⟨h1, of_decide_eq_true h2, q, (Option.some.inj e).symm, ?_⟩
  unfold orderP at hq
  by_cases c : l.length < 2
  · rw [if_pos c] at hq
    exact ⟨fun _ => (Option.some.inj hq).symm, fun h => absurd c (Nat.not_lt.mpr h)⟩
  · rw [if_neg c] at hq
    obtain ⟨hk, hq⟩ := ifO hq
    obtain ⟨p, hp, hq⟩ := bnd hq
    exact ⟨fun h => absurd h c, fun _ => ⟨hk, p, hp, Option.some.inj hq⟩⟩
theorem getD_any {h : Heap} {l : List PV} {vs : List Value} (r : VAll h ok l vs) (i : Nat) : VRep h ok (l.getD i .none) (vs.getD i Value.none) := by
  by_cases c : i < l.length
  · exact r.getD c
  · have e1 : l.getD i .none = .none := by simp [Nat.le_of_not_lt c]
    have e2 : vs.getD i Value.none = .none := by simp [r.length ▸ Nat.le_of_not_lt c]
    rw [e1, e2]; exact .none
theorem vall_picks {h : Heap} {l : List PV} {vs : List Value} (r : VAll h ok l vs) : ∀ q : List Nat, VAll h ok (q.map fun i => l.getD i .none) (q.map fun i => vs.getD i Value.none)
  | [] => .nil
  | i :: q => .cons (getD_any r i) (vall_picks r q)
theorem sorted_own {v r : PV} {l : List PV} {cv : Value} (rm : Room A n) (F : ∀ b, s.heap.get? b = none → pub.p b) (e0 : itemsOf v = some l) (e : sortP l = some r) (rv : VRep s.heap (fun _ => True) v cv) : Gets A s (call (.builtin "sorted") [cv]) (Oks true pub) r := by
  obtain ⟨himm, h64, o, rfl, hq, hk⟩ := sortP_is e
  intro E Q q
  have hu : A.in1.in1.units + 8 < cLine := by show A.units + 1 + 1 + 8 < cLine; have := rm.u; (first | with_reducible exact Nat.le_trans (by assumption) (by decide) | lia | omega)
  refine Calls.call_function_entry kind_sorted plain_sorted entry_sorted (args_sorted1 _) ?_
  unfold Builtin.«sorted»
  refine wpAny_bind (m := checkCount "sorted" 1 1 _) (wpAny_pure ?_)
  refine wpAny_bind (collect_own (A := A.in1) rm.h e0 h64 rv fun h1 tk1 us st1 va => ?_)
  have hlen := va.length
  rw [hlen] at h64 hq hk
  refine wpAny_bind (wpAny_newList ?_ (by rw [sizeLine_eq]; (first | with_reducible exact Nat.le_trans (by assumption) (by decide) | lia | omega)))
  have hoL : (h1.push (seqObj "list" us.toArray 0)).get? h1.objs.size = some (seqObj "list" us.toArray 0) := Heap.get?_push_size _ rfl
  have keep : ∀ h' : Heap, (∀ b o, b ≠ h1.objs.size → (h1.push (seqObj "list" us.toArray 0)).get? b = some o → h'.get? b = some o) → h1.StaysIn h' := fun h' k b o e => k b o (Nat.ne_of_lt (Heap.lt_size e)) (Heap.get?_push_of_some _ e)
  obtain ⟨κ, hκ⟩ : ∃ κ : SortKind, 2 ≤ us.length → ∃ p, krunO (askP l) (kas_sort us.length) = some p ∧ p.toList = o ∧ ∀ h' : Heap, (∀ b o, b ≠ h1.objs.size → (h1.push (seqObj "list" us.toArray 0)).get? b = some o → h'.get? b = some o) →
      (∀ (E' : Value → Shared → Prop) (Q : SortKind → Shared → Prop), Q κ { s with heap := h', toks := tk1 } → wpAny (model prog w) A.in1.in1 (keyKind' us.toArray) Q E' { s with heap := h', toks := tk1 }) ∧
      ∀ i j b (C : Bool → Shared → Prop), askP l i j = some b → C b { s with heap := h', toks := tk1 } → kas_ask prog w A.in1.in1 κ us i j C { s with heap := h', toks := tk1 } := by
    by_cases c : 2 ≤ us.length
    · obtain ⟨hkk, p, hp, e⟩ := hk c
      obtain ⟨κ, ask⟩ := asks hkk hu
      exact ⟨κ, fun _ => ⟨p, hp, e, fun h' k => ask { s with heap := h', toks := tk1 } us (va.stays (keep h' k) fun _ x => x) c⟩⟩
    · exact ⟨oneType', fun h => absurd h c⟩
  refine wpAny_bind (wpAny_holding (wpAny_call_entry slot_list_sort ⟨_, hoL, rfl⟩ entry_list_sort (sort_own (s := { s with heap := h1.push (seqObj "list" us.toArray 0), toks := tk1 }) (κ := κ) (lt := askP l) (q := o) hoL h64 hq hκ fun h' c k hnew => ⟨_, rfl, ?_⟩) (args_list_sort _)))
  refine wpAny_pure ⟨_, rfl, ?_⟩
  exact q _ h' tk1 (stays_trans st1 (keep h' k)) fun ok x => .list (Oks.fresh F ok x _ (none_of_stays st1 (fresh_none h1))) ⟨c, hnew⟩ (vall_picks (imms_any himm (va.stays (keep h' k) fun _ x => x)) o)
end
end Mine
namespace Mine
open PySem PySem.Calls PyProof.Rows PySem.W PySem.SeqAt
section
variable {A : Around} {s : Shared} {n : Nat} {pub : Pubs} {ok ok' : Addr → Prop}
theorem list_keys_none : typeLookup (.type "list") "keys" = pure none := by rw [typeLookup_type, builtinLookup_eq_fast]; kernel_rfl
theorem miss_keys {E : Value → Shared → Prop} {Q : Option Value → Shared → Prop} {a : Addr} {xs : Array Value} {k : Nat} (hx : s.heap.get? a = some { cls := .type "list", dict := none, data := .seq xs k, slots := #[] }) (hA : A.handled = none)
    (q : ∀ h' tk, s.heap.StaysIn h' → Q none { s with heap := h', toks := tk }) : wpAny (model prog w) A (getAttr? (.ref a) "keys") Q E s := by
  obtain ⟨hp, g, d, tk, os⟩ := s
  have hT : ∀ tk', (⟨hp, g, d, tk', os⟩ : Shared).TypeIs (.ref a) "list" := fun _ => ⟨_, hx, rfl⟩
  have f1 := sub_AttributeError
  have f3 := F.slot_list_getattribute.lookup
  have f4 := F.slot_list_getattribute.bind (.ref a)
  have f5 := am_list_getattr_none
  unfold getAttr? getAttrBy? getAttrBy
  repeat (any_goals (first | assumption | exact hT _ | ((with_reducible show wpAny _ _ (call (Value.builtin "list.__getattribute__") _ _) _ _ _); refine call_meets F.slot_list_getattribute (hT _) am_entry_list_getattribute (F.args_list_getattribute_2 _ _) (meets_getattribute_miss_list a xs k #[] "keys" _ list_keys_none (by decide) (by decide)) ⟨hx, hA, fun h' tk' e hx' => ?_⟩) | wp_step))
  obtain ⟨t', u', he⟩ := hx'.there
  show wpAny _ _ (getattributeRaised _ _ _ _ _ _ _) _ _ _
  unfold getattributeRaised
  repeat (any_goals (first | assumption | wp_step))
  exact q _ _ hx'.keeps
theorem entry_upd : entryFor table "dict.update.loop" = some Builtin.«dict.update.loop» := entryFor_of_tree (by kernel_rfl)
theorem plain_upd : plainId "dict.update.loop" = true := by decide +kernel
theorem dictL_cons {x : PV} {l ks vs : List PV} {r : List PV × List PV} (e : dictL (x :: l) ks vs = some r) : ∃ k v p, x = .tup [k, v] ∧ keyP k = true ∧ v.imm = true ∧ szOk ks.length = true ∧ putD2 k v ks vs = some p ∧ dictL l p.1 p.2 = some r := by
  obtain ⟨m, hm, e⟩ := bnd (show (tupL x).bind (fun l' => (match l' with
    | [] => none
    | k :: q => match q with
      | [] => none
      | v :: q => match q with
        | [] => bif keyP k && v.imm && szOk ks.length then (putD2 k v ks vs).bind fun p => dictL l p.1 p.2 else none
        | _ :: _ => none)) = some r from e)
  rw [tupL_eq hm]
  match m, e with
  | [], e => exact noS e
  | [_], e => exact noS e
  | _ :: _ :: _ :: _, e => exact noS e
  | [k, v], e =>
    obtain ⟨hc, e⟩ := onlyIf (show (bif keyP k && v.imm && szOk ks.length then (putD2 k v ks vs).bind fun p => dictL l p.1 p.2 else none) = some r from e)
    obtain ⟨hc, h3⟩ := two hc
    obtain ⟨h1, h2⟩ := two hc
    obtain ⟨p, hp, e⟩ := bnd e
    exact ⟨k, v, p, rfl, h1, h2, h3, hp, e⟩
theorem pairItems_tup {E : Value → Shared → Prop} {Q : List Value → Shared → Prop} {a : Addr} {items : Array Value} (hl : PlainTup s.heap a items) (q : Q items.toList s) : wpAny (model prog w) A (Builtin.Dict.pairItems (.ref a)) Q E s := by
  obtain ⟨m, hl⟩ := hl
  unfold Builtin.Dict.pairItems
  refine wpAny_bind (wpAny_typeOf (T := "tuple") ⟨_, hl, rfl⟩ ?_)
  rw [if_pos (by decide)]
  exact wpAny_bind (wpAny_seqItems hl rfl (wpAny_pure q))
theorem upd_loop {h0 : Heap} {D I a : Addr} {items : Array Value} {l : List PV} (hu : A.units + 3 < cLine) (hh : A.handled = none) (hlen : l.length = items.size) (hal : VAll h0 (fun _ => True) l items.toList) (hDI : D ≠ I) (hDa : D ≠ a) (haI : a ≠ I) (hD0 : h0.get? D = none) (hI0 : h0.get? I = none)
    {R : Result → Shared → Prop} {ks' vs' : List PV} : ∀ (k i : Nat) (s : Shared) (ks vs : List PV), i + k = l.length → dictL (l.drop i) ks vs = some (ks', vs') → h0.StaysIn s.heap → VRep s.heap (fun b => b = D) (.dict ks vs) (.ref D) → okItems (.dict ks vs) = true →
      s.heap.IsListIter I a i → s.heap.IsList a items → (∀ h' tk, h0.StaysIn h' → VRep h' (fun b => b = D) (.dict ks' vs') (.ref D) → okItems (.dict ks' vs') = true → R (.ok (.ret .none)) { s with heap := h', toks := tk }) →
      codeAny (model prog w) A (.builtin "dict.update.loop" ⟨[.ref D, .ref I, rawInt (i : Int), .none], []⟩) R s := by
  have W := Walks.list (prog := prog) (w := w) (A := A.in1) hh I a haI items
  have stay : ∀ {h h' : Heap}, h0.StaysIn h → (∀ b o, b ∉ [I] → h.get? b = some o → h'.get? b = some o) → h0.StaysIn h' := fun st k b o e => k b o (fun hm => by rw [List.mem_singleton.mp hm, hI0] at e; cases e) (st b o e)
  intro k
  induction k with
  | zero =>
    intro i s ks vs hik e st rd ho hit hl q
    have hi : i = l.length := by (first | with_reducible exact Nat.le_trans (by assumption) (by decide) | lia | omega)
    subst hi
    rw [List.drop_length] at e
    have e' : some (ks, vs) = some (ks', vs') := e
    cases e'
    refine codeAny_builtin entry_upd ?_
    rw [Around.under_plainId plain_upd _]
    show wpAny _ _ (pyNext (.ref I) >>= _) _ _ s
    refine wpAny_bind (W.done s _ _ (by rw [hlen] at hit; exact ⟨hit, hl⟩) fun h' tk kp => ?_)
    refine wpAny_bind (m := Builtin.Dict.addKeywords D []) (wpAny_pure (wpAny_pure ?_))
    have kp' : Kp (fun b => b = I) s.heap h' := kp_its (fun b e => by subst e; obtain ⟨o, ho, _, hd⟩ := hit; exact ⟨o, _, ho, hd⟩) fun b o hb e => kp b o (fun hm => hb (List.mem_singleton.mp hm)) e
    exact q h' tk (stay st kp) (rd.kp kp' fun b e => ⟨fun e2 => hDI (e.symm.trans e2), e⟩) ho
  | succ k ih =>
    intro i s ks vs hik e st rd ho hit hl q
    have hi : i < l.length := by (first | with_reducible exact Nat.le_trans (by assumption) (by decide) | lia | omega)
    rw [List.drop_eq_getElem_cons hi] at e
    obtain ⟨x, v, p, hx, hk, hv, hz, hp, e⟩ := dictL_cons e
    refine codeAny_builtin entry_upd ?_
    rw [Around.under_plainId plain_upd _]
    show wpAny _ _ (pyNext (.ref I) >>= _) _ _ s
    refine wpAny_bind (W.item i s _ _ (by (first | with_reducible exact Nat.le_trans (by assumption) (by decide) | lia | omega)) ⟨hit, hl⟩ fun cv h1 tk1 hcv st1 kp => ?_)
    have kp' : Kp (fun b => b = I) s.heap h1 := kp_its (fun b e => by subst e; obtain ⟨o, ho, _, hd⟩ := hit; exact ⟨o, _, ho, hd⟩) fun b o hb e => kp b o (fun hm => hb (List.mem_singleton.mp hm)) e
    have s1 := stay st kp
    have rd1 : VRep h1 (fun b => b = D) (.dict ks vs) (.ref D) := rd.kp kp' fun b e => ⟨fun e2 => hDI (e.symm.trans e2), e⟩
    obtain ⟨cv', h2, rx⟩ := (hal.stays s1 fun _ x => x).get (show l[i]? = some l[i] from List.getElem?_eq_getElem hi)
    have hcv' : items.toList[i]? = some cv := by simpa using hcv
    rw [hcv'] at h2; cases h2
    rw [hx] at rx
    cases rx with | tup hl2 ha2 =>
    rename_i b items2
    refine wpAny_bind (wpAny_holding ?_)
    refine wpAny_bind (wpAny_tryCatch (pairItems_tup (s := { s with heap := h1, toks := tk1 }) hl2 ?_))
    generalize items2.toList = us at ha2
    cases ha2 with | cons r1 rr =>
    cases rr with | cons r2 rr =>
    cases rr
    refine wpAny_holding ?_
    refine (put_core (A := A.in1) (s := { s with heap := h1, toks := tk1 }) ⟨by show A.units + 1 < cLine; (first | with_reducible exact Nat.le_trans (by assumption) (by decide) | lia | omega), by show A.units + 1 + 1 < cLine; (first | with_reducible exact Nat.le_trans (by assumption) (by decide) | lia | omega)⟩ hk hv hz hp ho rd1 r1 r2 fun h3 tk3 rd3 sb => ?_).1
    have s3 : h0.StaysIn h3 := fun b o e => (sb.2 b (fun hm => by rw [hm, hD0] at e; cases e)).trans (s1 b o e)
    refine wpAny_pure ⟨plainId_quiet plain_upd _, ?_⟩
    have e2 : (rawInt ((i : Int) + 1)) = rawInt ((i + 1 : Nat) : Int) := by push_cast; rfl
    show codeAny _ _ (.builtin "dict.update.loop" ⟨[.ref D, .ref I, rawInt ((i : Int) + 1), .none], []⟩) R _
    rw [e2]
    refine ih (i + 1) { s with heap := h3, toks := tk3 } p.1 p.2 (by (first | with_reducible exact Nat.le_trans (by assumption) (by decide) | lia | omega)) e s3 rd3 (put_ok ho (key_imm hk) hv hp) (st1.1.at fun o e => (sb.2 I (fun h => hDI h.symm)).trans e) (st1.2.at fun o e => (sb.2 a (fun h => hDa h.symm)).trans e) q
theorem dict_of_list {l : List PV} {r : PV} {cv : Value} (rm : Room A n) (hm : s.heap.get? mainGlobals ≠ none) (Fr' : ∀ b, s.heap.get? b = none → pub.p b) (e : (dictL l [] []).bind (fun p => some (PV.dict p.1 p.2)) = some r) (rv : VRep s.heap (fun _ => True) (.list l) cv) : Gets A s (call (.type "dict") [cv]) (Oks true pub) r := by
  obtain ⟨⟨ks', vs'⟩, hd, e'⟩ := bnd e
  cases e'
  obtain ⟨a, items, rfl, o, ⟨m, hl⟩, ha⟩ := rv.list_inv
  have hlen : l.length = items.size := ha.length
  intro E Q q
  refine callType_codes (Q₁ := fun obj s₁ => obj = .ref s.heap.objs.size ∧ s₁ = { s with heap := s.heap.push { cls := .type "dict", data := .dict #[] } }) F.kt_called_dict (F.kt_typeCall_dict_1 _) F.entry_dict_init (kt_code_dict_new _ ⟨rfl, rfl⟩) ?_
  rintro obj s₁ ⟨rfl, rfl⟩
  have hnew : (s.heap.push { cls := .type "dict", data := .dict #[] }).DictOf (atomKind) s.heap.objs.size [] := Heap.DictOf.new s.heap
  refine ⟨hnew.typeIs, F.args_dict_init_2 _ _, ?_⟩
  unfold Builtin.«dict.__init__»
  refine wpAny_bind ?_
  unfold Builtin.Dict.selfAndRest
  refine wpAny_bind (wpAny_notOrdered_dict hnew.typeIs ?_)
  show wpAny _ _ (pure (s.heap.objs.size, [Value.ref a])) _ _ _
  refine wpAny_pure ?_
  show wpAny _ _ (Builtin.Dict.updateFrom "dict.__init__" s.heap.objs.size (.ref a) [] .none) _ _ _
  unfold Builtin.Dict.updateFrom
  have hl1 : (s.heap.push { cls := .type "dict", data := .dict #[] }).get? a = some { cls := .type "list", dict := none, data := .seq items m, slots := #[] } := Heap.get?_push_of_some _ hl
  refine wpAny_bind (wpAny_typeOf (T := "list") ⟨_, hl1, rfl⟩ ?_)
  rw [if_pos (by decide)]
  refine wpAny_bind (miss_keys (s := { s with heap := s.heap.push { cls := .type "dict", data := .dict #[] } }) hl1 rm.h fun h2 tk2 st2 => ?_)
  show wpAny _ _ (rule _ >>= _) _ _ _
  refine wpAny_bind (wpAny_rule ?_)
  have hl2 : h2.get? a = some { cls := .type "list", dict := none, data := .seq items m, slots := #[] } := st2 _ _ hl1
  refine wpAny_bind (wpAny_pyIter_list (s := { s with heap := h2, toks := tk2 }) ⟨_, hl2, rfl, m, rfl⟩ ?_)
  refine wpAny_pure ⟨plainId_quiet plain_upd _, ?_⟩
  have hD2 : h2.get? s.heap.objs.size ≠ none := by obtain ⟨o, _, _, ho, _⟩ := hnew; rw [st2 _ _ ho]; simp
  have hDlt : s.heap.objs.size < h2.objs.size := by
    rcases Nat.lt_or_ge s.heap.objs.size h2.objs.size with h | h
    · exact h
    · exact absurd (Heap.get?_none_of_le h) hD2
  have halt : a < s.heap.objs.size := Heap.lt_size hl
  have st02 : s.heap.StaysIn h2 := stays_trans (stays_push _ _) st2
  refine upd_loop (A := A.in1) (h0 := s.heap) (D := s.heap.objs.size) (I := h2.objs.size) (by show A.units + 1 + 3 < cLine; have := rm.u; (first | with_reducible exact Nat.le_trans (by assumption) (by decide) | lia | omega)) rm.h hlen ha (Nat.ne_of_lt hDlt) (Nat.ne_of_gt halt) (Nat.ne_of_lt (Nat.lt_trans halt hDlt)) (fresh_none _) (Heap.get?_none_of_le (Nat.le_of_lt hDlt)) l.length 0 _ [] [] (by (first | with_reducible exact Nat.le_trans (by assumption) (by decide) | lia | omega)) (by simpa using hd) (stays_trans st02 (stays_push _ _)) (.dictA [] rfl ?_ (new_notSys hm) rfl .nil) rfl ⟨_, Heap.get?_push_size _ rfl, rfl, rfl⟩ ⟨_, Heap.get?_push_of_some _ hl2, rfl, m, rfl⟩ fun h' tk st rd hok => ⟨rfl, ?_⟩
  · obtain ⟨o, es, ep, ho, r⟩ := hnew
    exact ⟨o, es, ep, Heap.get?_push_of_some _ (st2 _ _ ho), r⟩
  · exact q _ h' tk st fun ok o => rd.weaken fun b e => by subst e; exact Oks.fresh Fr' ok o _ (fresh_none _)
end
end Mine
namespace Mine
open PySem PySem.Calls PyProof.Rows PySem.W PySem.SeqAt
open AutoSeq1 (wpAny_loadPart')
section
variable {A : Around} {E : Value → Shared → Prop} {s : Shared}
theorem leaf_iterEnum {n : Nat} {pub : Pubs} {a : Bool × PV} {its : List PV} {cv : Value} {target : Expr} {Q : Value → Shared → Prop} (rm : Room A n) (e : enumP a = some its) (ht : isTupT target = true) (rv : ∀ ok, Oks a.1 pub ok → VRep s.heap ok a.2 cv)
    (q : ∀ it s', Pack A s target pub.p pub.nw its it s' → Q it s') : wpAny (model prog w) A (call (.type "enumerate") [cv]) (fun cv s₁ => wpAny (model prog w) A (pyIter cv) Q E s₁) E s := by
  obtain ⟨p, v⟩ := a
  have items : ∀ {l : List PV} {vs : List Value} (hc : (p || PV.imms l) = true), VAll s.heap (fun _ => True) l vs → (p = true → VAll s.heap pub.p l vs) → VAll s.heap pub.p l vs := fun {l vs} hc h1 h2 => by
    simp only [Bool.or_eq_true] at hc
    rcases hc with hc | hc
    · exact h2 hc
    · exact imms_any hc h1
  have new1 : ∀ {h' : Heap}, h'.objs.size = s.heap.objs.size + 2 → s.heap.get? s.heap.objs.size = none ∧ s.heap.get? (s.heap.objs.size + 1) = none := fun _ => ⟨fresh_none _, Heap.get?_none_of_le (Nat.le_succ _)⟩
  have hef : ∀ {b : Addr}, b < s.heap.objs.size → s.heap.objs.size + 1 ∉ [s.heap.objs.size, b] := fun {b} hb h => by
    rcases List.mem_cons.mp h with e | e
    · exact Nat.succ_ne_self _ e
    · have := List.mem_singleton.mp e
      exact absurd (this ▸ hb : s.heap.objs.size + 1 < s.heap.objs.size) (by exact Nat.not_lt.mpr (Nat.le_succ _))
  cases v with
  | str l =>
    have e' : some (enumFrom 0 (l.map fun c => PV.str [c])) = some its := e
    cases e'
    have r1 := rv _ .T
    cases r1 with | str x t hx =>
    subst hx
    have hlen : (x.cps.toList.map fun c => PV.str [c]).length = x.cps.size := by simp
    have key : ∀ nm, (∀ A : Around, A.handled = none → Draws prog w A s.heap.objs.size [s.heap.objs.size] x.cps.size (fun i v => ∃ c u, x.cps[i]? = some c ∧ v = .str ⟨#[c]⟩ u) (fun i h => h.IsStrIter s.heap.objs.size nm x t i)) →
        ∀ h', IsEnum h' (s.heap.objs.size + 1) s.heap.objs.size 0 .none → h'.IsStrIter s.heap.objs.size nm x t 0 → h'.objs.size = s.heap.objs.size + 2 → s.heap.StaysIn h' → wpAny (model prog w) A (pyIter (.ref (s.heap.objs.size + 1))) Q E { s with heap := h' } := fun nm D h' he hi hz st => by
      have D' := D A.in1 rm.h
      rw [← hlen] at D'
      refine wpAny_pyIter_enum he (q _ _ ⟨s.heap.objs.size + 1, fun a => a = s.heap.objs.size + 1 ∨ a = s.heap.objs.size, fun _ => False, _, h', s.toks, rfl, rfl, st,
        turns_enum (pi := fun a => pub.p a ∧ h'.get? a ≠ none) (X := fun _ => True) (P := fun i v => ∃ c u, x.cps[i]? = some c ∧ v = .str ⟨#[c]⟩ u) ht D' (Nat.succ_ne_self _) (fun h => absurd (List.mem_singleton.mp h) (Nat.succ_ne_self _))
          (fun i v y h _ hy hv => ?_) (fun _ _ _ _ _ _ => trivial) (fun i h x => ?_) (fun _ => False) (fun i h x c hc => .inl (List.mem_singleton.mp hc)) (fun c hc => hc.elim) (fun c hc => hc.elim), ⟨⟨⟨_, he⟩, hi⟩, trivial⟩, fun c hc => ?_, fun c hc => hc.elim⟩)
      · obtain ⟨c, u, h1, rfl⟩ := hv
        rw [List.getElem?_map] at hy
        have h1' : x.cps.toList[i]? = some c := by simpa using h1
        rw [h1'] at hy; cases hy
        exact .str _ _ rfl
      · obtain ⟨o, ho, _, hd⟩ := x; exact ⟨o, _, ho, hd⟩
      · rcases hc with rfl | rfl
        · exact (new1 hz).2
        · exact (new1 hz).1
    refine call_enumerate_str fun h' he hi hz st => ?_
    unfold strIterType at hi
    split at hi
    · exact key _ (fun A hh => Draws.strAscii hh _ x t) h' he hi hz st
    · exact key _ (fun A hh => Draws.strWide hh _ x t) h' he hi hz st
  | _ => exact noS e
end
end Mine
namespace Mine
open PySem PySem.Calls PyProof.Rows PySem.W PySem.SeqAt
section
variable {A : Around} {s : Shared} {n : Nat} {pub : Pubs}
theorem leaf_biV {b : BI} {p : Bool} {v r : PV} {cv : Value} (rm : Room A n) (hm : s.heap.get? mainGlobals ≠ none) (e : biV b (p, v) = some r) (F : ∀ b, s.heap.get? b = none → pub.p b) (rv : ∀ ok, Oks p pub ok → VRep s.heap ok v cv) :
    Gets A s (call (biVal b) [cv]) (Oks true pub) r := by
  cases b with
  | len =>
    have e' : lenP v = some r := e
    cases v with
    | list => exact len_list e' (rv _ .T)
    | str => exact len_str' e' (rv _ .T)
    | _ => exact noS e'
  | sum =>
    obtain ⟨l, hl, e2⟩ := bnd (show (listL v).bind (fun l => (sumL 0 l).bind fun i => some (PV.int i)) = some r from e)
    obtain rfl := listL_eq hl
    exact sum_list' (p := p) rm e (rv _ .T)
  | sorted => cases v <;> first | exact sorted_own rm F rfl e (rv _ .T) | exact noS e
  | dict =>
    obtain ⟨l, hl, e2⟩ := bnd (show (listL v).bind (fun l => (dictL l [] []).bind fun p => some (PV.dict p.1 p.2)) = some r from e)
    obtain rfl := listL_eq hl
    exact dict_of_list rm hm F e2 (rv _ .T)
  | _ => exact noS e
theorem leafs : Leafs where
  biV := leaf_biV
  bi2 := leaf_bi2
  isi := fun _ => leaf_isi
  meth1 := leaf_meth1
  meth2 := leaf_meth2
  iterV := leaf_iterV
  iterRange := leaf_iterRange
  iterEnum := leaf_iterEnum
  view := leaf_view
  sumV := leaf_sumV
  put := leaf_put
  lmeth := leaf_lmeth
end
end Mine
namespace Mine
open PySem PySem.Calls PyProof.Rows PySem.W PySem.SeqAt
noncomputable def namesOf (fn : Fn) : List Str := fn.params ++ (fn.dflts.map (·.1)).filter fun x => noneIn x fn.params
noncomputable def scopeOk (fn : Fn) : Bool := fn.scope.kind == .function && !fn.scope.isCoroutine && !fn.scope.isGenerator && allApart (fn.scope.names.map (·.1)) && (fn.scope.names.all fun x => match x.2 with | .free => false | _ => true) &&
  (namesOf fn).all (ownK fn.scope) && allApart (namesOf fn)
theorem fnAt_mk {K : Frag} {hb : Heap} (X : K.In hb) {a : Addr} {fn : Fn} {oc : Value} {od : Option Addr} {osl : Array (Option Value)} {fd : FuncData} (ho : K.lookup a = some ⟨oc, od, .func fd, osl⟩)
    (h1 : fd.globals = mainGlobals ∧ fd.builtins = builtinsNs ∧ fd.closure = [] ∧ fd.body = .stmts fn.body ∧ fd.scope = fn.scope) (h2 : codeIn K fd.code fd.qualname = true) (h3 : scopeOk fn = true)
    (h4 : ∀ as vals vars (s : Shared), K.In s.heap → as.length = vals.length → bindArgsV fn.params as fn.dflts = some vars → ∃ binds, BindsTo s fd ⟨vals, []⟩ binds ∧ Bound vars as vals binds)
    (h5 : ∀ as vars, bindArgsV fn.params as fn.dflts = some vars → vars.map (·.1) = namesOf fn) : FnAt hb a fn := by
  unfold scopeOk at h3
  simp only [Bool.and_eq_true, beq_iff_eq, Bool.not_eq_true'] at h3
  obtain ⟨⟨⟨⟨⟨⟨k1, k2⟩, k3⟩, k4⟩, k5⟩, k6⟩, k7⟩ := h3
  refine ⟨⟨_, fd, X _ _ ho, rfl, h1.1, h1.2.1, h1.2.2.1, h1.2.2.2.1, h1.2.2.2.2, codeRec_of X h2, fun as vals vars s st hl e => h4 as vals vars s (X.keeps st) hl e⟩, k1, k2, k3, allApart_nodup k4, fun x hx => ?_, fun as vars e => ?_⟩
  · have := List.all_eq_true.mp k5 x hx
    intro e; rw [e] at this; cases this
  · have e1 := h5 as vars e
    refine ⟨fun x hx => List.all_eq_true.mp k6 _ (e1 ▸ List.mem_map_of_mem hx), e1 ▸ allApart_nodup k7⟩
theorem bind_plain : ∀ {ps : List Str} {as : List (Mode × PV)} {vars : Vars}, bindArgsV ps as [] = some vars → as.length = ps.length ∧ vars = ps.zip as
  | [], [], vars, e => ⟨rfl, (Option.some.inj e).symm⟩
  | [], _ :: _, vars, e => noS e
  | p :: ps, [], vars, e => noS e
  | p :: ps, a :: as, vars, e => by
    obtain ⟨t, ht, rfl⟩ := bindA e
    obtain ⟨i1, i2⟩ := bind_plain ht
    exact ⟨congrArg (· + 1) i1, by rw [i2]; rfl⟩
theorem bound_zip : ∀ {ps : List Str} {as : List (Mode × PV)} {vals : List Value}, as.length = ps.length → as.length = vals.length → Bound (ps.zip as) as vals (ps.zip vals)
  | [], [], [], _, _ => .nil
  | p :: ps, a :: as, v :: vs, h1, h2 => .arg (bound_zip (by simpa using h1) (by simpa using h2))
  | [], _ :: _, _, h, _ => by simp at h
  | _ :: _, [], _, h, _ => by simp at h
  | _, [], _ :: _, _, h => by simp at h
  | _, _ :: _, [], _, h => by simp at h
theorem fnAt_plain {K : Frag} {hb : Heap} (X : K.In hb) {a : Addr} {fn : Fn} {oc : Value} {od : Option Addr} {osl : Array (Option Value)} {fd : FuncData} (ho : K.lookup a = some ⟨oc, od, .func fd, osl⟩)
    (h1 : fd.globals = mainGlobals ∧ fd.builtins = builtinsNs ∧ fd.closure = [] ∧ fd.body = .stmts fn.body ∧ fd.scope = fn.scope) (h2 : codeIn K fd.code fd.qualname = true) (h3 : scopeOk fn = true) (hd : fn.dflts = [])
    (h4 : ∀ vals : List Value, vals.length = fn.params.length → bindArgs fd ⟨vals, []⟩ = pure (fn.params.zip vals)) : FnAt hb a fn := by
  refine fnAt_mk X ho h1 h2 h3 (fun as vals vars s _ hl e => ?_) (fun as vars e => ?_)
  · rw [hd] at e
    obtain ⟨i1, rfl⟩ := bind_plain e
    exact ⟨fn.params.zip vals, BindsTo.of_eq (h4 vals (hl.symm.trans i1)), bound_zip i1 hl⟩
  · rw [hd] at e
    obtain ⟨i1, rfl⟩ := bind_plain e
    unfold namesOf
    rw [hd, List.map_fst_zip (by (first | with_reducible exact Nat.le_trans (by assumption) (by decide) | lia | omega))]; simp
end Mine
namespace Mine
open PySem PySem.Calls PyProof.Rows PySem.W PySem.SeqAt
noncomputable def tabAll (P : Str → Fn → Prop) : Tab → Prop
  | [] => True
  | e :: r => P e.1 e.2 ∧ tabAll P r
theorem tabAll_look {P : Str → Fn → Prop} : ∀ {T : Tab}, tabAll P T → ∀ {x fn}, tabLook x T = some fn → P x fn
  | [], _, x, fn, e => by simp [tabLook] at e
  | (y, f) :: r, h, x, fn, e => by
    simp only [tabLook] at e
    split at e
    · rename_i q; cases e; rw [← strEq_iff.mp q]; exact h.1
    · exact tabAll_look h.2 e
noncomputable def biNames : List Str := ["len", "abs", "min", "max", "sum", "sorted", "list", "tuple", "dict", "range", "enumerate", "isinstance"]
theorem or_bif {α : Type} {c : Bool} {a b r : α} (h : (bif c then a else b) = r) : (c = true ∧ a = r) ∨ b = r := match c, h with
  | true, h => .inl ⟨rfl, h⟩
  | false, h => .inr h
theorem biLook_mem {x : Str} {b : BI} : ∀ {T : List (Str × BI)}, biLook x T = some b → (x, b) ∈ T
  | [], h => noS h
  | (y, c) :: r, h => by
    rcases (or_bif (show (bif strEq x y then some c else biLook x r) = some b from h)) with ⟨q, h⟩ | h
    · rw [strEq_iff.mp q, Option.some.inj h]; exact .head _
    · exact .tail _ (biLook_mem h)
theorem biTab_ok : ∀ e ∈ biTab, e.1 ∈ biNames ∧ bootBuiltins e.1 = some (biVal e.2) ∧ e.1 ≠ "__name__" := by decide +kernel
theorem biOf_names {x : Str} {b : BI} (h : biOf x = some b) : x ∈ biNames ∧ bootBuiltins x = some (biVal b) ∧ x ≠ "__name__" := biTab_ok _ (biLook_mem h)
theorem glob_mk {K : Frag} {hb : Heap} (X : K.In hb) {T : Tab} {p : Program} {loose : List Str} {mean : ExcName → Option Value} {mg mb : Str → Option Value} (Tp : Top p loose mean mg mb hb)
    (hfree : (biNames.all fun x => match nsIn K mainGlobals x with | some none => true | _ => false) = true)
    (htab : tabAll (fun x fn => (x == ("__debug__" : Str)) = false ∧ ∃ a, nsIn K mainGlobals x = some (some (.ref a)) ∧ FnAt hb a fn) T) : Glob T hb where
  ns := by
    refine ⟨mg, mb, Tp.g, Tp.b, fun x b e => ?_, fun x fn e => ?_⟩
    · obtain ⟨h1, h2, h3⟩ := biOf_names e
      refine ⟨mg_none_of X Tp.g ?_, (Tp.builtins x h3).trans h2⟩
      have := List.all_eq_true.mp hfree x h1
      split at this
      · assumption
      · cases this
    · obtain ⟨h1, a, h2, h3⟩ := tabAll_look htab e
      exact ⟨h1, a, mg_of X Tp.g h2, h3⟩
  nolimit := Tp.nolimit
section
variable {T : Tab} {hb : Heap} {A : Around} {s : Shared} {n : Nat}
theorem law_code (S : Snd T hb n) (hnl : hb.NoLimit) {a l : Addr} {fn : Fn} {x v : PV} (fat : FnAt hb a fn) (hcon : fn.const = none) (rm : Room A (n + 1)) (st : hb.StaysIn s.heap) (hv : xCall T (n + 1) fn [(.B, x)] = some v) (rx : VRep s.heap (fun _ => True) x (.ref l))
    {R : Result → Shared → Prop} (q : ∀ cv h' tk, s.heap.StaysIn h' → VRep h' (fun _ => True) v cv → R (.ok (.ret cv)) { s with heap := h', toks := tk }) : codeAny (model prog w) A (.call (.ref a) ⟨[.ref l], []⟩) R s := by
  have hv : zCallK (zRec T n) n fn.const fn [(.B, x)] = some v := hv
  rw [hcon] at hv
  obtain ⟨vars, hb', hv⟩ := bnd (show (bindArgsV fn.params [(.B, x)] fn.dflts).bind (fun vars => (xSs T n fn.scope vars fn.body).bind fun q => some (retOf q)) = some v from hv)
  obtain ⟨r, hr, hv⟩ := bnd hv
  cases hv
  have noM : ∀ y md v, (y, md, v) ∈ vars → ownM md = false := fun y md v hy => by
    rcases bindArgs_modes hb' y md v hy with rfl | hm
    · rfl
    · have := List.mem_singleton.mp hm; cases this; rfl
  refine codeAny_mono (call_enterC S rm (lent := s.heap.objs.size) (pub := fun _ => True) (E := fun _ _ => False) (Q := fun cv s' => R (.ok (.ret cv)) s') fat hnl st (fun _ _ => trivial) hb' hr (.cons ?_ .nil) (fun y md v hy hm => by rw [noM y md v hy] at hm; cases hm)
      (fun y z my vy mz vz hy _ hm _ => by rw [noM y my vy hy] at hm; cases hm) (.inr noM) fun cv h' tk k ex ends => q cv h' tk (fun b o e => k b o e (.inr noM)) ?_) fun r s' h => ?_
  · exact rx.exist.weaken fun a o => fun e => o.2 (by rw [e]; exact Heap.get?_none_of_le (Nat.le_refl _))
  · cases r with
    | next vars' => obtain ⟨rfl, _⟩ := ends; exact .none
    | ret v => exact ends.1
  · split at h
    · exact h
    · cases h
    · cases h
theorem vall_ints {P : Params} {h : Heap} {ok : Addr → Prop} : ∀ {ns : List Int} {vs : List Value}, WellAll P h vs (ofPys (ns.map PyData.int)) → VAll h ok (ns.map PV.int) vs
  | [], vs, r => by cases r; exact .nil
  | i :: ns, vs, r => by
    cases r with | cons r0 rr =>
    cases r0
    exact .cons (.int _ _) (vall_ints rr)
theorem law_claim {K : Frag} {p : Program} {loose : List Str} {mean : ExcName → Option Value} {mg mb : Str → Option Value} {fa l : Addr} {ns : List Int} {P : Params} (X : K.In s.heap) (Tp : Top p loose mean mg mb s.heap)
    (hmg : mg "law" = some (.ref fa)) (hw : Well P s.heap (.ref l) (ofPy (PyData.list (ns.map PyData.int)))) (hg : s.gens = #[])
    (hfree : (biNames.all fun x => match nsIn K mainGlobals x with | some none => true | _ => false) = true)
    (htab : tabAll (fun x fn => (x == ("__debug__" : Str)) = false ∧ ∃ a, nsIn K mainGlobals x = some (some (.ref a)) ∧ FnAt s.heap a fn) T) (hc : Consts T s.heap)
    (hrun : ∃ fn, tabLook "law" T = some fn ∧ fn.const = none ∧ xCall T (n + 1) fn [(.B, .list (ns.map .int))] = some (.bool true)) (hn : n ≤ 680)
    {c : ClaimW} {cl : Str → Option Addr} {mean' : ExcName → Option Value} {args : List WData} (h1 : ∀ cls, c.raises args cls = false) (h2 : c.post args (.bool true) args = true) :
    codeAny (model prog w) callerA (.call (.ref fa) ⟨[.ref l], []⟩) (GoodW c cl mean' args s) s := by
  obtain ⟨fn, hf, hcon, hx⟩ := hrun
  have G := glob_mk X Tp hfree htab
  obtain ⟨_, a, ha, fat⟩ := tabAll_look htab hf
  have e := mg_of X Tp.g ha
  rw [hmg] at e
  cases e
  have rx : VRep s.heap (fun _ => True) (.list (ns.map .int)) (.ref l) := by
    have e : ofPy (PyData.list (ns.map PyData.int)) = WData.list (ofPys (ns.map PyData.int)) := by simp only [ofPy]
    rw [e] at hw
    cases hw with | list ho ha =>
    exact .list trivial ⟨_, ho⟩ (by simpa using vall_ints ha)
  refine law_code (snd G (leafs) hc n) G.nolimit fat hcon ⟨rfl, ?_, ?_⟩ (stays_refl _) hx rx fun cv h' tk st r => ?_
  · have e1 : callerA.depth = 301 := rfl
    have e2 : recursionLimit = 1000 := rfl
    (first | with_reducible exact Nat.le_trans (by assumption) (by decide) | lia | omega)
  · have e1 : callerA.units = 4 := rfl
    have e2 : cLine = 9900 := rfl
    (first | with_reducible exact Nat.le_trans (by assumption) (by decide) | lia | omega)
  · cases r
    exact ⟨.inl ⟨_, _, [], rfl, h1, .bool true, h2, fun _ => ⟨.nil, fun a ha => by cases ha⟩⟩, st, rfl, hg⟩
end
end Mine
namespace Mine
open PySem PySem.Calls PyProof.Rows PySem.W PySem.SeqAt
noncomputable def fdNone : FuncData := docDef "" { posonlyargs := [], args := [], vararg := none, kwonlyargs := [], kw_defaults := [], kwarg := none, defaults := [] } [] { kind := .function, names := [], isGenerator := false, isCoroutine := false, more := [] } .none .none .none
noncomputable def isFd (K : Frag) (a : Addr) : Bool := match K.lookup a with
  | some ⟨_, _, .func _, _⟩ => true
  | _ => false
noncomputable def fdAt (K : Frag) (a : Addr) : FuncData := match K.lookup a with
  | some ⟨_, _, .func fd, _⟩ => fd
  | _ => fdNone
theorem fdAt_is {K : Frag} {a : Addr} (h : isFd K a = true) : ∃ oc od osl, K.lookup a = some ⟨oc, od, .func (fdAt K a), osl⟩ := by
  unfold isFd at h
  unfold fdAt
  split at h
  · rename_i c d fd sl q
    rw [q]; exact ⟨_, _, _, rfl⟩
  · cases h
noncomputable def dfltAt0 (K : Frag) (a : Addr) : Value := match (fdAt K a).defaults with
  | .ref t => match K.lookup t with
    | some ⟨_, _, .seq items _, _⟩ => items.getD 0 .none
    | _ => .none
  | _ => .none
noncomputable def tokOf : Value → Tok
  | .int _ t => t
  | _ => 0
structure FnSame (K : Frag) (a : Addr) (fn : Fn) : Prop where
  is : isFd K a = true
  glob : (fdAt K a).globals = mainGlobals
  blt : (fdAt K a).builtins = builtinsNs
  clo : (fdAt K a).closure = []
  body : (fdAt K a).body = .stmts fn.body
  scope : (fdAt K a).scope = fn.scope
  code : codeIn K (fdAt K a).code (fdAt K a).qualname = true
  ok : scopeOk fn = true
theorem fn_plain {K : Frag} {hb : Heap} (X : K.In hb) {a : Addr} {fn : Fn} (S : FnSame K a fn) (hd : fn.dflts = []) (h4 : ∀ vals : List Value, vals.length = fn.params.length → bindArgs (fdAt K a) ⟨vals, []⟩ = pure (fn.params.zip vals)) : FnAt hb a fn := by
  obtain ⟨oc, od, osl, ho⟩ := fdAt_is S.is
  exact fnAt_plain X ho ⟨S.glob, S.blt, S.clo, S.body, S.scope⟩ S.code S.ok hd h4
theorem len_cons {α : Type} {l : List α} {n : Nat} (h : l.length = n + 1) : ∃ a r, l = a :: r ∧ r.length = n := match l, h with
  | a :: r, h => ⟨a, r, rfl, Nat.succ.inj h⟩
theorem len_nil {α : Type} {l : List α} (h : l.length = 0) : l = [] := List.eq_nil_of_length_eq_zero h
theorem fn_plain1 {K : Frag} {hb : Heap} (X : K.In hb) {a : Addr} {fn : Fn} (S : FnSame K a fn) (hd : fn.dflts = []) (hn : fn.params.length = 1) (h : ∀ v1 : Value, bindArgs (fdAt K a) ⟨[v1], []⟩ = pure (fn.params.zip [v1])) : FnAt hb a fn := by
  refine fn_plain X S hd fun vals hv => ?_
  obtain ⟨v1, r, e, hz⟩ := len_cons (hv.trans hn)
  rw [e, len_nil hz]
  exact h v1
theorem fn_plain2 {K : Frag} {hb : Heap} (X : K.In hb) {a : Addr} {fn : Fn} (S : FnSame K a fn) (hd : fn.dflts = []) (hn : fn.params.length = 2) (h : ∀ v1 v2 : Value, bindArgs (fdAt K a) ⟨[v1, v2], []⟩ = pure (fn.params.zip [v1, v2])) : FnAt hb a fn := by
  refine fn_plain X S hd fun vals hv => ?_
  obtain ⟨v1, r, e, hz⟩ := len_cons (hv.trans hn)
  obtain ⟨v2, r2, e2, hz2⟩ := len_cons hz
  rw [e, e2, len_nil hz2]
  exact h v1 v2
theorem fn_plain3 {K : Frag} {hb : Heap} (X : K.In hb) {a : Addr} {fn : Fn} (S : FnSame K a fn) (hd : fn.dflts = []) (hn : fn.params.length = 3) (h : ∀ v1 v2 v3 : Value, bindArgs (fdAt K a) ⟨[v1, v2, v3], []⟩ = pure (fn.params.zip [v1, v2, v3])) : FnAt hb a fn := by
  refine fn_plain X S hd fun vals hv => ?_
  obtain ⟨v1, r, e, hz⟩ := len_cons (hv.trans hn)
  obtain ⟨v2, r2, e2, hz2⟩ := len_cons hz
  obtain ⟨v3, r3, e3, hz3⟩ := len_cons hz2
  rw [e, e2, e3, len_nil hz3]
  exact h v1 v2 v3
theorem fn_dflt {K : Frag} {hb : Heap} (X : K.In hb) {a : Addr} {fn : Fn} (S : FnSame K a fn) {p1 p2 p3 p4 p5 : Str} (names : namesOf fn = [p1, p2, p3, p4, p5]) {u : Value} (hu : u = .int 0 (tokOf u))
    (n0 : bindArgsV fn.params [] fn.dflts = none) (n1 : ∀ a, bindArgsV fn.params [a] fn.dflts = none) (n5 : ∀ a b c d e r, bindArgsV fn.params (a :: b :: c :: d :: e :: r) fn.dflts = none)
    (n2 : ∀ a b, bindArgsV fn.params [a, b] fn.dflts = some [(p1, a), (p2, b), (p3, .P, .int 0), (p4, .P, .none), (p5, .P, .none)])
    (n3 : ∀ a b c, bindArgsV fn.params [a, b, c] fn.dflts = some [(p1, a), (p2, b), (p3, c), (p4, .P, .none), (p5, .P, .none)])
    (n4 : ∀ a b c d, bindArgsV fn.params [a, b, c, d] fn.dflts = some [(p1, a), (p2, b), (p3, c), (p4, d), (p5, .P, .none)])
    (b2 : ∀ S v1 v2, peek K S (bindArgs (fdAt K a) ⟨[v1, v2], []⟩) = some [(p1, v1), (p2, v2), (p3, u), (p4, .none), (p5, .none)])
    (b3 : ∀ S v1 v2 v3, peek K S (bindArgs (fdAt K a) ⟨[v1, v2, v3], []⟩) = some [(p1, v1), (p2, v2), (p3, v3), (p4, .none), (p5, .none)])
    (b4 : ∀ S v1 v2 v3 v4, peek K S (bindArgs (fdAt K a) ⟨[v1, v2, v3, v4], []⟩) = some [(p1, v1), (p2, v2), (p3, v3), (p4, v4), (p5, .none)]) : FnAt hb a fn := by
  obtain ⟨oc, od, osl, ho⟩ := fdAt_is S.is
  have key : ∀ as vars, bindArgsV fn.params as fn.dflts = some vars → vars.map (·.1) = namesOf fn ∧ ∀ vals (s : Shared), K.In s.heap → as.length = vals.length → ∃ binds, BindsTo s (fdAt K a) ⟨vals, []⟩ binds ∧ Bound vars as vals binds := by
    intro as vars e
    rw [names]
    match as with
    | [] => exact noS (n0.symm.trans e)
    | [_] => exact noS ((n1 _).symm.trans e)
    | [a1, a2] =>
      rw [← Option.some.inj ((n2 _ _).symm.trans e)]
      refine ⟨rfl, fun vals s X' hl => ?_⟩
      obtain ⟨v1, r1, e1, z1⟩ := len_cons hl.symm
      obtain ⟨v2, r2, e2, z2⟩ := len_cons z1
      rw [e1, e2, len_nil z2]
      exact ⟨_, kp_binds X' fun S => b2 S v1 v2, .arg (.arg (.dflt ⟨_, hu⟩ (.dflt rfl (.dflt rfl .nil))))⟩
    | [a1, a2, a3] =>
      rw [← Option.some.inj ((n3 _ _ _).symm.trans e)]
      refine ⟨rfl, fun vals s X' hl => ?_⟩
      obtain ⟨v1, r1, e1, z1⟩ := len_cons hl.symm
      obtain ⟨v2, r2, e2, z2⟩ := len_cons z1
      obtain ⟨v3, r3, e3, z3⟩ := len_cons z2
      rw [e1, e2, e3, len_nil z3]
      exact ⟨_, kp_binds X' fun S => b3 S v1 v2 v3, .arg (.arg (.arg (.dflt rfl (.dflt rfl .nil))))⟩
    | [a1, a2, a3, a4] =>
      rw [← Option.some.inj ((n4 _ _ _ _).symm.trans e)]
      refine ⟨rfl, fun vals s X' hl => ?_⟩
      obtain ⟨v1, r1, e1, z1⟩ := len_cons hl.symm
      obtain ⟨v2, r2, e2, z2⟩ := len_cons z1
      obtain ⟨v3, r3, e3, z3⟩ := len_cons z2
      obtain ⟨v4, r4, e4, z4⟩ := len_cons z3
      rw [e1, e2, e3, e4, len_nil z4]
      exact ⟨_, kp_binds X' fun S => b4 S v1 v2 v3 v4, .arg (.arg (.arg (.arg (.dflt rfl .nil))))⟩
    | _ :: _ :: _ :: _ :: _ :: _ => exact noS ((n5 _ _ _ _ _ _).symm.trans e)
  exact fnAt_mk X ho ⟨S.glob, S.blt, S.clo, S.body, S.scope⟩ S.code S.ok (fun as vals vars s X' hl e => (key as vars e).2 vals s X' hl) (fun as vars e => (key as vars e).1)
noncomputable def fnNone : Fn := ⟨[], [], [], { kind := .function, names := [], isGenerator := false, isCoroutine := false, more := [] }, false, none⟩
noncomputable def ent (T : Tab) (i : Nat) : Str × Fn := T.getD i ("", fnNone)
theorem tabAll_nth {P : Str → Fn → Prop} : ∀ {T : Tab}, (∀ i, i < T.length → P (ent T i).1 (ent T i).2) → tabAll P T
  | [], _ => trivial
  | e :: r, h => ⟨h 0 (Nat.succ_pos _), tabAll_nth fun i hi => h (i + 1) (Nat.succ_lt_succ hi)⟩
noncomputable def Upto (P : Nat → Prop) : Nat → Prop
  | 0 => True
  | n + 1 => Upto P n ∧ P n
theorem upto {P : Nat → Prop} : ∀ {n : Nat}, Upto P n → ∀ i, i < n → P i
  | 0, _, _, h => absurd h (Nat.not_lt_zero _)
  | n + 1, h, i, hi => if e : i = n then e ▸ h.2 else upto h.1 i (Nat.lt_of_le_of_ne (Nat.le_of_lt_succ hi) e)
theorem tabAll_upto {P : Str → Fn → Prop} {T : Tab} {n : Nat} (hn : T.length = n) (h : Upto (fun i => P (ent T i).1 (ent T i).2) n) : tabAll P T := tabAll_nth fun i hi => upto h i (hn ▸ hi)
end Mine
namespace Mine
open PySem
theorem sumL_ints : ∀ (ns : List Int) (a : Int), sumL a (ns.map .int) = some (a + ns.sum)
  | [], a => congrArg some (Int.add_zero a).symm
  | i :: ns, a => (sumL_ints ns (a + i)).trans (congrArg some (by rw [List.sum_cons, Int.add_assoc]))
end Mine
namespace Mine
open PySem
noncomputable def evL : List (List Nat) := [[97], [98], [97, 97], [97, 98], [98, 97], [98, 98], [97, 97, 97], [97, 97, 98], [97, 98, 97], [97, 98, 98], [98, 97, 97], [98, 97, 98], [98, 98, 97], [98, 98, 98]]
noncomputable def evW : PV := .list (evL.map .str)
noncomputable def T05 : Tab := tabOf Challenge.pw_id0004_05 [("_law_every", evW)]
noncomputable def fnZ : Fn := ⟨[], [], [], { kind := .function, names := [], isGenerator := false, isCoroutine := false, more := [] }, false, none⟩
noncomputable def entZ (T : Tab) (i : Nat) : Str × Fn := T.getD i ("", fnZ)
noncomputable def nthS (l : List Stmt) (i : Nat) : Stmt := l.getD i (.Pass ⟨0, 0, 0, 0⟩)
noncomputable def thenOf : Stmt → List Stmt
  | .If _ a _ _ => a
  | _ => []
noncomputable def noE : Expr := .Constant .none 0 ⟨0, 0, 0, 0⟩
noncomputable def testOf : Stmt → Expr
  | .While t _ _ _ => t
  | .If t _ _ _ => t
  | .For t _ _ _ _ => t
  | _ => noE
noncomputable def loopB : Stmt → List Stmt
  | .While _ b _ _ => b
  | .For _ _ b _ _ => b
  | _ => []
noncomputable def nm (m : Mode) (v : PV) : Option (Bool × PV) := readP (some .local) (some (m, v))
noncomputable def kc (v : PV) : Option (Bool × PV) := some (true, v)
noncomputable def cBin (op : Operator) (ea eb : Option (Bool × PV)) : Option (Bool × PV) := ea.bind fun a => eb.bind fun b => (evalBin op a.2 b.2).bind fun v => some ((a.1 || okItems a.2) && (b.1 || okItems b.2), v)
noncomputable def cItem (ea ei : Option (Bool × PV)) : Option (Bool × PV) := ea.bind fun a => ei.bind fun k => (evalSub a.2 k.2).bind fun q => some (a.1 || q.imm, q)
noncomputable def cCmpT (op : CmpOp) (ea eb : Option (Bool × PV)) : Option Bool := ea.bind fun a => eb.bind fun b => evalCmp op a.2 b.2
noncomputable def cAsg (x : Str) (vars : Vars) (e : Option (Bool × PV)) : Option Res := (e.bind pubM).bind fun s => some (.next (setV x s vars))
noncomputable def cFin : Res → Option Res
  | .next v => some (.next v)
  | .ret v => some (.ret v)
noncomputable def fB : Fn := (entZ T05 3).2
noncomputable def wB : Stmt := nthS (thenOf (nthS fB.body 2)) 0
noncomputable def WB (ma mx : Mode) (l : List PV) (x lo hi : PV) (md : Vars) : Vars := ("a", ma, .list l) :: ("x", mx, x) :: ("lo", .P, lo) :: ("hi", .P, hi) :: ("key", .P, .none) :: md
theorem bis_t {n : Nat} {ma mx : Mode} {l : List PV} {x lo hi : PV} {md : Vars} : xT T05 (n + 5) fB.scope (WB ma mx l x lo hi md) (testOf wB) = cCmpT .Lt (kc lo) (kc hi) := by kernel_rfl
noncomputable def bis1 (W : Vars) (lo hi : PV) : Option Res := cAsg "mid" W (cBin .FloorDiv (cBin .Add (kc lo) (kc hi)) (kc (.int 2)))
theorem bis_1 {n : Nat} {ma mx : Mode} {l : List PV} {x lo hi : PV} : xS T05 (n + 9) fB.scope (WB ma mx l x lo hi []) (nthS (loopB wB) 0) = bis1 (WB ma mx l x lo hi []) lo hi := by kernel_rfl
theorem bis_1' {n : Nat} {ma mx : Mode} {l : List PV} {x lo hi : PV} {s : Mode × PV} : xS T05 (n + 9) fB.scope (WB ma mx l x lo hi [("mid", s)]) (nthS (loopB wB) 0) = bis1 (WB ma mx l x lo hi [("mid", s)]) lo hi := by kernel_rfl
theorem bis_2 {n : Nat} {ma mx : Mode} {l : List PV} {x lo hi mid : PV} : xS T05 (n + 9) fB.scope (WB ma mx l x lo hi [("mid", .P, mid)]) (nthS (loopB wB) 1) = (cCmpT .Lt (cItem (nm ma (.list l)) (kc mid)) (nm mx x)).bind fun c => bif c then (cAsg "lo" (WB ma mx l x lo hi [("mid", .P, mid)]) (cBin .Add (kc mid) (kc (.int 1)))).bind cFin else (cAsg "hi" (WB ma mx l x lo hi [("mid", .P, mid)]) (kc mid)).bind cFin := by kernel_rfl
theorem bind_go {α β : Type} {o : Option α} {f : α → Option β} {a : α} {r : Option β} (h : o = some a) (h2 : f a = r) : o.bind f = r := by rw [h]; exact h2
theorem smallI_of {a : Int} (h1 : 0 ≤ a) (h2 : a < 4611686018427387904) : smallI a = true := (Bool.and_eq_true _ _).mpr ⟨decide_eq_true (Int.lt_of_lt_of_le (by decide) h1), decide_eq_true h2⟩
theorem nth_at {α : Type} {l : List α} {i : Nat} {x : α} (h : l[i]? = some x) : nth l (i : Int) = some x := by
  have hl : i < l.length := (List.getElem?_eq_some_iff.mp h).1
  unfold nth seqIndex?
  have e1 : ¬ ((i : Int) < 0) := by (first | with_reducible exact Nat.le_trans (by assumption) (by decide) | lia | omega)
  have e2 : ((i : Int) < l.length) := by (first | with_reducible exact Nat.le_trans (by assumption) (by decide) | lia | omega)
  have e3 : (0 : Int) ≤ i := by (first | with_reducible exact Nat.le_trans (by assumption) (by decide) | lia | omega)
  simp [e1, e2, e3, h]
theorem nm_eq (m : Mode) (v : PV) : nm m v = some (decide (m = .P) || v.imm, v) := rfl
theorem sm_nat {i : Nat} (h : i ≤ 4000000) : smallI (i : Int) = true := smallI_of (Int.natCast_nonneg i) (Int.lt_of_le_of_lt (Int.ofNat_le.mpr h) (by decide))
theorem evalSub_list (l : List PV) (i : Int) : evalSub (.list l) (.int i) = if smallI i = true then nth l i else none := by
  unfold evalSub intP
  rfl
theorem sub_list {l : List PV} {i : Nat} {x : PV} (h : l[i]? = some x) (hl : l.length ≤ 1000000) : evalSub (.list l) (.int i) = some x := by
  have hi : i < l.length := (List.getElem?_eq_some_iff.mp h).1
  have hs : smallI (i : Int) = true := sm_nat (by (first | with_reducible exact Nat.le_trans (by assumption) (by decide) | lia | omega))
  rw [evalSub_list, hs, if_pos rfl]
  exact nth_at h
theorem evalFd (a b : Int) : evalBin .FloorDiv (.int a) (.int b) = if (smallI a && decide (0 < b) && smallI b) = true then some (PV.int (a / b)) else none := by
  unfold evalBin intPs intP
  rfl
theorem fdiv2 {a : Nat} (h : a ≤ 4000000) : evalBin .FloorDiv (.int a) (.int 2) = some (.int ((a / 2 : Nat) : Int)) := by
  rw [evalFd, sm_nat h, if_pos (by decide), Int.natCast_ediv]
  rfl
theorem cCmpT_go {op : CmpOp} {ea eb : Option (Bool × PV)} {a b : PV} {f g : Bool} {c : Bool} (h1 : ea = some (f, a)) (h2 : eb = some (g, b)) (h : evalCmp op a b = some c) : cCmpT op ea eb = some c := by
  rw [h1, h2]; exact h
theorem cBin_go {op : Operator} {ea eb : Option (Bool × PV)} {a b v : PV} {f g : Bool} (h1 : ea = some (f, a)) (h2 : eb = some (g, b)) (h : evalBin op a b = some v) : cBin op ea eb = some ((f || okItems a) && (g || okItems b), v) := by
  rw [h1, h2]; exact bind_go (o := evalBin op a b) h rfl
theorem cItem_go {ea eb : Option (Bool × PV)} {a b v : PV} {f g : Bool} (h1 : ea = some (f, a)) (h2 : eb = some (g, b)) (h : evalSub a b = some v) : cItem ea eb = some (f || v.imm, v) := by
  rw [h1, h2]; exact bind_go (o := evalSub a b) h rfl
theorem cAsg_go {x : Str} {vars : Vars} {e : Option (Bool × PV)} {v : PV} (h : e = some (true, v)) : cAsg x vars e = some (.next (setV x (.P, v) vars)) := by rw [h]; rfl
theorem ss_step {T : Tab} {n : Nat} {sc : Scope} {v v' : Vars} {b : List Stmt} {st : Stmt} {q : List Stmt} {r : Option Res} (hb : b = st :: q) (h : xS T n sc v st = some (.next v')) (hq : xSs T n sc v' q = r) : xSs T (n + 1) sc v b = r := by
  rw [hb]; exact bind_go (o := xS T n sc v st) h hq
theorem ss_ret {T : Tab} {n : Nat} {sc : Scope} {v : Vars} {b : List Stmt} {st : Stmt} {q : List Stmt} {r : PV} (hb : b = st :: q) (h : xS T n sc v st = some (.ret r)) : xSs T (n + 1) sc v b = some (.ret r) := by
  rw [hb]; exact bind_go (o := xS T n sc v st) h rfl
theorem ss_nil {T : Tab} {n : Nat} {sc : Scope} {v : Vars} {b : List Stmt} (hb : b = []) : xSs T (n + 1) sc v b = some (.next v) := by rw [hb]; rfl
theorem while_go {T : Tab} {n : Nat} {sc : Scope} {v v' : Vars} {t : Expr} {b : List Stmt} {r : Option Res} (ht : xT T n sc v t = some true) (hb : xSs T n sc v b = some (.next v')) (hr : xWhile T n sc v' t b = r) : xWhile T (n + 1) sc v t b = r :=
  bind_go (o := xT T n sc v t) ht (bind_go (o := xSs T n sc v b) hb hr)
theorem while_end {T : Tab} {n : Nat} {sc : Scope} {v : Vars} {t : Expr} {b : List Stmt} (ht : xT T n sc v t = some false) : xWhile T (n + 1) sc v t b = some (.next v) :=
  bind_go (o := xT T n sc v t) ht rfl
structure Place (l : List PV) (x : PV) (k : Nat) : Prop where
  le : k ≤ l.length
  lt : ∀ i y, i < k → l[i]? = some y → PV.lt y x = some true
  ge : ∀ i y, k ≤ i → l[i]? = some y → PV.lt y x = some false
noncomputable def Mid (md : Vars) : Prop := md = [] ∨ ∃ s : Mode × PV, md = (("mid" : Str), s) :: []
theorem bis_body {n lo hi k : Nat} {ma mx : Mode} {l : List PV} {x : PV} {md : Vars} (P : Place l x k) (hm : Mid md) (hl : l.length ≤ 1000000) (h1 : lo ≤ k) (h2 : k ≤ hi) (h3 : hi ≤ l.length) (h4 : lo < hi) :
    ∃ lo' hi' md', xSs T05 (n + 12) fB.scope (WB ma mx l x (.int lo) (.int hi) md) (loopB wB) = some (.next (WB ma mx l x (.int (lo' : Nat)) (.int (hi' : Nat)) md')) ∧ Mid md' ∧ lo' ≤ k ∧ k ≤ hi' ∧ hi' ≤ l.length ∧ hi' - lo' < hi - lo := by
  have hb : loopB wB = nthS (loopB wB) 0 :: nthS (loopB wB) 1 :: [] := by kernel_rfl
  have e1 : bis1 (WB ma mx l x (.int lo) (.int hi) md) (.int lo) (.int hi) = some (.next (WB ma mx l x (.int lo) (.int hi) [("mid", .P, .int (((lo + hi) / 2 : Nat) : Int))])) := by
    refine (cAsg_go (cBin_go (cBin_go rfl rfl (show _ = some (PV.int ((lo + hi : Nat) : Int)) from rfl)) rfl (fdiv2 (by (first | with_reducible exact Nat.le_trans (by assumption) (by decide) | lia | omega))))).trans ?_
    rcases hm with rfl | ⟨s, rfl⟩ <;> kernel_rfl
  have e2 : xS T05 (n + 11) fB.scope (WB ma mx l x (.int lo) (.int hi) md) (nthS (loopB wB) 0) = some (.next (WB ma mx l x (.int lo) (.int hi) [("mid", .P, .int (((lo + hi) / 2 : Nat) : Int))])) := by
    rcases hm with rfl | ⟨s, rfl⟩
    · exact bis_1.trans e1
    · exact bis_1'.trans e1
  obtain ⟨y, hy⟩ : ∃ y, l[(lo + hi) / 2]? = some y := ⟨_, List.getElem?_eq_getElem (Nat.lt_of_lt_of_le (a_mid2 h4) h3)⟩
  have hc : ∀ c, PV.lt y x = some c → cCmpT .Lt (cItem (nm ma (.list l)) (kc (.int (((lo + hi) / 2 : Nat) : Int)))) (nm mx x) = some c := fun c h =>
    cCmpT_go (cItem_go (nm_eq ..) rfl (sub_list hy hl)) (nm_eq ..) h
  by_cases hk : (lo + hi) / 2 < k
  · refine ⟨(lo + hi) / 2 + 1, hi, [("mid", .P, .int (((lo + hi) / 2 : Nat) : Int))], ss_step hb e2 (ss_step rfl ((bis_2 (n := n + 1)).trans (bind_go (hc true (P.lt _ _ hk hy)) ?_)) (ss_nil rfl)), .inr ⟨_, rfl⟩, hk, h2, h3, a_up h4⟩
    kernel_rfl
  · refine ⟨lo, (lo + hi) / 2, [("mid", .P, .int (((lo + hi) / 2 : Nat) : Int))], ss_step hb e2 (ss_step rfl ((bis_2 (n := n + 1)).trans (bind_go (hc false (P.ge _ _ (Nat.le_of_not_lt hk) hy)) ?_)) (ss_nil rfl)), .inr ⟨_, rfl⟩, h1, Nat.le_of_not_lt hk, Nat.le_trans (Nat.le_of_lt (a_mid2 h4)) h3, a_dn h4⟩
    kernel_rfl
theorem bis_while {k : Nat} {ma mx : Mode} {l : List PV} {x : PV} (P : Place l x k) (hl : l.length ≤ 1000000) : ∀ (f n lo hi : Nat) (md : Vars), Mid md → lo ≤ k → k ≤ hi → hi ≤ l.length → hi - lo ≤ f →
    ∃ md', xWhile T05 (n + 13 + f) fB.scope (WB ma mx l x (.int lo) (.int hi) md) (testOf wB) (loopB wB) = some (.next (WB ma mx l x (.int k) (.int k) md'))
  | 0, n, lo, hi, md, hm, h1, h2, h3, h4 => by
    have e1 : lo = k := by (first | with_reducible exact Nat.le_trans (by assumption) (by decide) | lia | omega)
    have e2 : hi = k := by (first | with_reducible exact Nat.le_trans (by assumption) (by decide) | lia | omega)
    rw [e1, e2]
    exact ⟨md, while_end ((bis_t (n := n + 7)).trans (cCmpT_go (a := .int k) (b := .int k) rfl rfl (congrArg some (decide_eq_false (Int.lt_irrefl _)))))⟩
  | f + 1, n, lo, hi, md, hm, h1, h2, h3, h4 => by
    by_cases h : lo < hi
    · obtain ⟨lo', hi', md', e, g1, g2, g3, g4, g5⟩ := bis_body (n := n + f + 1) (ma := ma) (mx := mx) P hm hl h1 h2 h3 h
      obtain ⟨md2, e2⟩ := bis_while P hl f n lo' hi' md' g1 g2 g3 g4 (by (first | with_reducible exact Nat.le_trans (by assumption) (by decide) | lia | omega))
      refine ⟨md2, while_go (n := n + 13 + f) ?_ ?_ e2⟩
      · rw [show n + 13 + f = n + f + 8 + 5 from Nat.add_right_comm n 13 f]
        exact bis_t.trans (cCmpT_go (a := .int lo) (b := .int hi) rfl rfl (congrArg some (decide_eq_true (Int.ofNat_lt.mpr h))))
      · rw [show n + 13 + f = n + f + 1 + 12 from Nat.add_right_comm n 13 f]
        exact e
    · have e1 : lo = k := by (first | with_reducible exact Nat.le_trans (by assumption) (by decide) | lia | omega)
      have e2 : hi = k := by (first | with_reducible exact Nat.le_trans (by assumption) (by decide) | lia | omega)
      rw [e1, e2]
      refine ⟨md, while_end (n := n + 13 + f) ?_⟩
      rw [show n + 13 + f = n + f + 8 + 5 from Nat.add_right_comm n 13 f]
      exact bis_t.trans (cCmpT_go (a := .int k) (b := .int k) rfl rfl (congrArg some (decide_eq_false (Int.lt_irrefl _))))
end Mine
namespace Mine
open PySem
theorem call_go {T : Tab} {n : Nat} {fn : Fn} {as : List (Mode × PV)} {vars : Vars} {v : PV} (hc : fn.const = none) (hb : bindArgsV fn.params as fn.dflts = some vars) (h : xSs T n fn.scope vars fn.body = some (.ret v)) : xCall T (n + 1) fn as = some v := by
  show zCallK (zRec T n) n fn.const fn as = _
  rw [hc]
  exact bind_go (o := bindArgsV fn.params as fn.dflts) hb (bind_go (o := xSs T n fn.scope vars fn.body) h rfl)
theorem lenP_list {l : List PV} (h : l.length ≤ 1000000) : lenP (.list l) = some (.int l.length) := if_pos (decide_eq_true h)
theorem kcB {o : Option PV} {v : PV} (h : o = some v) : (o.bind fun v => some (true, v)) = some (true, v) := by rw [h]; rfl
theorem bB : fB.body = nthS fB.body 0 :: nthS fB.body 1 :: nthS fB.body 2 :: nthS fB.body 3 :: [] := by kernel_rfl
theorem bis_0 {ma : Mode} {n : Nat} {l : List PV} {x hi : PV} : xS T05 (n + 9) fB.scope (WB ma .P l x (.int 0) hi []) (nthS fB.body 0) = some (.next (WB ma .P l x (.int 0) hi [])) := by kernel_rfl
theorem bis_i {ma : Mode} {n : Nat} {l : List PV} {x : PV} : xS T05 (n + 9) fB.scope (WB ma .P l x (.int 0) .none []) (nthS fB.body 1) = (cAsg "hi" (WB ma .P l x (.int 0) .none []) ((lenP (.list l)).bind fun v => some (true, v))).bind cFin := by kernel_rfl
theorem bis_w {ma : Mode} {n : Nat} {l : List PV} {x lo hi : PV} : xS T05 (n + 9) fB.scope (WB ma .P l x lo hi []) (nthS fB.body 2) = (xWhile T05 (n + 6) fB.scope (WB ma .P l x lo hi []) (testOf wB) (loopB wB)).bind cFin := by kernel_rfl
theorem bis_r {ma : Mode} {n : Nat} {l : List PV} {x lo hi : PV} {md : Vars} : xS T05 (n + 9) fB.scope (WB ma .P l x lo hi md) (nthS fB.body 3) = some (.ret lo) := by kernel_rfl
theorem bis_ss {ma : Mode} {n k : Nat} {l : List PV} {x : PV} (P : Place l x k) (hl : l.length ≤ 1000000) : xSs T05 (n + 30 + l.length) fB.scope (WB ma .P l x (.int 0) .none []) fB.body = some (.ret (.int k)) := by
  obtain ⟨md, e⟩ := bis_while (ma := ma) (mx := .P) P hl l.length (n + 11) 0 l.length [] (.inl rfl) (Nat.zero_le _) P.le (Nat.le_refl _) (Nat.sub_le _ _)
  rw [show n + 30 + l.length = n + l.length + 17 + 9 + 1 + 1 + 1 + 1 by (first | with_reducible exact Nat.le_trans (by assumption) (by decide) | lia | omega)]
  refine ss_step bB (bis_0 (n := n + l.length + 20)) (ss_step rfl (v' := WB ma .P l x (.int 0) (.int l.length) []) ?_ (ss_step rfl (v' := WB ma .P l x (.int k) (.int k) md) ?_ (ss_ret rfl (bis_r (n := n + l.length + 17)))))
  · exact (bis_i (n := n + l.length + 19)).trans (bind_go (cAsg_go (kcB (lenP_list hl))) (by kernel_rfl))
  · refine (bis_w (n := n + l.length + 18)).trans (bind_go (a := .next (WB ma .P l x (.int k) (.int k) md)) ?_ rfl)
    rw [show n + l.length + 18 + 6 = n + 11 + 13 + l.length by (first | with_reducible exact Nat.le_trans (by assumption) (by decide) | lia | omega)]
    exact e
theorem bis_call {ma : Mode} {n k : Nat} {l : List PV} {x : PV} (P : Place l x k) (hl : l.length ≤ 1000000) : xCall T05 (n + 31 + l.length) fB [(ma, .list l), (.P, x)] = some (.int k) := by
  rw [show n + 31 + l.length = n + 30 + l.length + 1 from Nat.add_right_comm (n + 30) 1 l.length]
  exact call_go (by kernel_rfl) (by kernel_rfl) (bis_ss (ma := ma) P hl)
theorem bis_call4 {ma : Mode} {n k : Nat} {l : List PV} {x : PV} (P : Place l x k) (hl : l.length ≤ 1000000) : xCall T05 (n + 31 + l.length) fB [(ma, .list l), (.P, x), (.P, .int 0), (.P, .none)] = some (.int k) := by
  rw [show n + 31 + l.length = n + 30 + l.length + 1 from Nat.add_right_comm (n + 30) 1 l.length]
  exact call_go (by kernel_rfl) (by kernel_rfl) (bis_ss (ma := ma) P hl)
noncomputable def fI : Fn := (entZ T05 2).2
noncomputable def WI (l : List PV) (x lo : PV) : Vars := [("a", .M, .list l), ("x", .P, x), ("lo", .P, lo), ("hi", .P, .none), ("key", .P, .none)]
theorem bI : fI.body = nthS fI.body 0 :: nthS fI.body 1 :: [] := by kernel_rfl
theorem ins_0 {n : Nat} {l : List PV} {x : PV} : xS T05 (n + 14) fI.scope (WI l x (.int 0)) (nthS fI.body 0) = (cAsg "lo" (WI l x (.int 0)) ((xCall T05 (n + 9) fB [(.B, .list l), (.P, x), (.P, .int 0), (.P, .none)]).bind fun v => some (true, v))).bind cFin := by kernel_rfl
theorem ins_1 {n : Nat} {l : List PV} {x lo : PV} : xS T05 (n + 9) fI.scope (WI l x lo) (nthS fI.body 1) = ((insL l [lo, x]).bind fun l' => some (WI l' x lo)).bind fun v => some (.next v) := by kernel_rfl
noncomputable def insAt (l : List PV) (k : Nat) (x : PV) : List PV := l.take k ++ x :: l.drop k
theorem insL_go {l : List PV} {k : Nat} {x : PV} (hx : x.imm = true) (hl : l.length ≤ 1000000) (hk : k ≤ l.length) : insL l [.int k, x] = some (insAt l k x) := by
  show (bif x.imm && szOk l.length && decide (0 ≤ (k : Int)) && decide ((k : Int) ≤ l.length) then some (l.take (k : Int).toNat ++ x :: l.drop (k : Int).toNat) else none) = _
  rw [hx, show szOk l.length = true from decide_eq_true hl, decide_eq_true (Int.natCast_nonneg k), decide_eq_true (Int.ofNat_le.mpr hk)]
  rfl
theorem ins_ss {n k : Nat} {l : List PV} {x : PV} (P : Place l x k) (hx : x.imm = true) (hl : l.length ≤ 1000000) : xSs T05 (n + 40 + l.length) fI.scope (WI l x (.int 0)) fI.body = some (.next (WI (insAt l k x) x (.int k))) := by
  rw [show n + 40 + l.length = n + l.length + 24 + 14 + 1 + 1 by (first | with_reducible exact Nat.le_trans (by assumption) (by decide) | lia | omega)]
  refine ss_step bI (v' := WI l x (.int k)) ((ins_0 (n := n + l.length + 25)).trans (bind_go (cAsg_go (v := .int k) (kcB ?_)) (by kernel_rfl))) (ss_step rfl ((ins_1 (n := n + l.length + 29)).trans (bind_go (bind_go (insL_go hx hl P.le) rfl) rfl)) (ss_nil rfl))
  rw [show n + l.length + 25 + 9 = n + 3 + 31 + l.length by (first | with_reducible exact Nat.le_trans (by assumption) (by decide) | lia | omega)]
  exact bis_call4 P hl
theorem mut_eq {m : Nat} {l : List PV} {x : PV} {vars : Vars} {d : Str} : zMut (zRec T05 m) vars fI d [(true, x)] (.list l) = (xSs T05 m fI.scope (WI l x (.int 0)) fI.body).bind fun q => (backP d fI.params q vars).bind fun v => some (.next v) := by kernel_rfl
theorem back_eq {l : List PV} {x lo : PV} {vars : Vars} {d : Str} : backP d fI.params (.next (WI l x lo)) vars = some (setV d (.O, .list l) vars) := by kernel_rfl
theorem ins_mut {n k : Nat} {l : List PV} {x : PV} {vars : Vars} {d : Str} (P : Place l x k) (hx : x.imm = true) (hl : l.length ≤ 1000000) :
    zMut (zRec T05 (n + 40 + l.length)) vars fI d [(true, x)] (.list l) = some (.next (setV d (.O, .list (insAt l k x)) vars)) :=
  mut_eq.trans (bind_go (ins_ss P hx hl) (bind_go back_eq rfl))
end Mine
namespace Mine
open PySem
theorem for_inv {T : Tab} {c : Nat} {sc : Scope} {t : Expr} {b : List Stmt} {P : List PV → Vars → Prop}
    (step : ∀ x xs v m, P (x :: xs) v → ∃ v1 v2, bindT (m + c) sc t x v = some v1 ∧ xSs T (m + c) sc v1 b = some (.next v2) ∧ P xs v2) :
    ∀ (items : List PV) (v : Vars) (m : Nat), P items v → ∃ v', xFor T (m + c + items.length + 1) sc v t b items = some (.next v') ∧ P [] v'
  | [], v, m, h => ⟨v, rfl, h⟩
  | x :: xs, v, m, h => by
    obtain ⟨v1, v2, h1, h2, h3⟩ := step x xs v (m + xs.length + 1) h
    obtain ⟨v', h4, h5⟩ := for_inv step xs v2 m h3
    refine ⟨v', ?_, h5⟩
    show xFor T (m + c + (xs.length + 1) + 1) sc v t b (x :: xs) = _
    rw [show m + c + (xs.length + 1) = m + xs.length + 1 + c by (first | with_reducible exact Nat.le_trans (by assumption) (by decide) | lia | omega)]
    refine bind_go (o := bindT (m + xs.length + 1 + c) sc t x v) h1 (bind_go (o := xSs T (m + xs.length + 1 + c) sc v1 b) h2 ?_)
    show xFor T (m + xs.length + 1 + c) sc v2 t b xs = _
    rw [show m + xs.length + 1 + c = m + c + xs.length + 1 by (first | with_reducible exact Nat.le_trans (by assumption) (by decide) | lia | omega)]
    exact h4
noncomputable abbrev Piece := List Nat
noncomputable abbrev Tbl := List (Piece × Int)
noncomputable def lits (s : String) : PV := .str (Str.ofString s).cps.toList
noncomputable def key (p : Piece) : PV := .tup [lits "ends", .str p, lits "text"]
noncomputable def ksD (D : Tbl) : List PV := D.map fun e => key e.1
noncomputable def vsD (D : Tbl) : List PV := D.map fun e => .int e.2
noncomputable def setD (p : Piece) (c : Int) : Tbl → Tbl
  | [] => [(p, c)]
  | e :: r => if e.1 = p then (e.1, c) :: r else e :: setD p c r
noncomputable def getD (p : Piece) : Tbl → Option Int
  | [] => none
  | e :: r => if e.1 = p then some e.2 else getD p r
theorem key_eq (q p : Piece) : PV.eq (key q) (key p) = some (q == p) := by
  have h1 : PV.eq (key q) (key p) = some (true && ((q == p) && (true && true))) := by kernel_rfl
  rw [h1]; simp
theorem getD2_key (p : Piece) : ∀ D : Tbl, getD2 (key p) (ksD D) (vsD D) = some ((getD p D).map .int)
  | [] => rfl
  | e :: r => by
    show (match PV.eq (key e.1) (key p) with
      | some true => (vsD (e :: r)).head?.map some
      | some false => getD2 (key p) (ksD r) (vsD r)
      | Option.none => Option.none) = _
    rw [key_eq]
    unfold getD
    by_cases h : e.1 = p
    · rw [if_pos h, beq_iff_eq.mpr h]; rfl
    · rw [if_neg h, beq_eq_false_iff_ne.mpr h]; exact getD2_key p r
theorem putD2_key (p : Piece) (c : Int) : ∀ D : Tbl, putD2 (key p) (.int c) (ksD D) (vsD D) = some (ksD (setD p c D), vsD (setD p c D))
  | [] => rfl
  | e :: r => by
    show (match PV.eq (key e.1) (key p) with
      | some true => some (key e.1 :: ksD r, PV.int c :: vsD r)
      | some false => (putD2 (key p) (.int c) (ksD r) (vsD r)).map fun (q : List PV × List PV) => (key e.1 :: q.1, [PV.int e.2] ++ q.2)
      | Option.none => Option.none) = _
    rw [key_eq]
    unfold setD
    by_cases h : e.1 = p
    · rw [if_pos h, beq_iff_eq.mpr h]; rfl
    · rw [if_neg h, beq_eq_false_iff_ne.mpr h, putD2_key p c r]; rfl
theorem imms_ints (D : Tbl) : PV.imms (vsD D) = true := by
  unfold PV.imms vsD
  rw [List.all_map, List.all_eq_true]
  intro e _
  rfl
theorem key_keyP (p : Piece) : keyP (key p) = true := by kernel_rfl
noncomputable def fA : Fn := (entZ T05 0).2
noncomputable def WA (m1 : Mode) (t : PV) (s : PV) (d : PV) (r : Vars) : Vars := ("target", m1, t) :: ("source", .P, s) :: ("new_callers", .O, d) :: r
noncomputable def dic (D : Tbl) : PV := .dict (ksD D) (vsD D)
theorem bA : fA.body = nthS fA.body 0 :: nthS fA.body 1 :: nthS fA.body 2 :: nthS fA.body 3 :: [] := by kernel_rfl
theorem add_0 {n : Nat} {m1 : Mode} {t s : PV} : xS T05 (n + 9) fA.scope [("target", m1, t), ("source", .P, s)] (nthS fA.body 0) = some (.next (WA m1 t s (dic []) [])) := by kernel_rfl
noncomputable def l1 : Stmt := nthS fA.body 1
noncomputable def l2 : Stmt := nthS fA.body 2
noncomputable def tgtE : Stmt → Expr
  | .For t _ _ _ _ => t
  | _ => noE
noncomputable def Two (r : Vars) : Prop := r = [] ∨ ∃ a b : Mode × PV, r = [(("func" : Str), a), (("caller" : Str), b)]
theorem add_b {n : Nat} {m1 : Mode} {t s d k v : PV} {r : Vars} (h : Two r) : bindT (n + 9) fA.scope (tgtE l1) (.tup [k, v]) (WA m1 t s d r) = some (WA m1 t s d [("func", .P, k), ("caller", .P, v)]) := by
  rcases h with rfl | ⟨a, b, rfl⟩ <;> kernel_rfl
theorem add_s {n : Nat} {m1 : Mode} {t s k v : PV} {ks vs : List PV} : xSs T05 (n + 9) fA.scope (WA m1 t s (.dict ks vs) [("func", .P, k), ("caller", .P, v)]) (loopB l1) =
    ((bif keyP k && v.imm && szOk ks.length then (putD2 k v ks vs).bind fun p => some (WA m1 t s (.dict p.1 p.2) [("func", .P, k), ("caller", .P, v)]) else none).bind fun v => some (.next v)).bind cFin := by kernel_rfl
theorem add_f {n : Nat} {m1 : Mode} {t s d : PV} (hm : m1 ≠ .O) : xS T05 (n + 9) fA.scope (WA m1 t s d []) l1 = ((nameS (m1, t)).bind (viewP true "items")).bind fun items => xFor T05 (n + 8) fA.scope (WA m1 t s d []) (tgtE l1) (loopB l1) items := by
  cases m1 with
  | O => exact absurd rfl hm
  | _ => kernel_rfl
noncomputable def prs (D : Tbl) : List PV := D.map fun e => .tup [key e.1, .int e.2]
theorem pairs_eq : ∀ D : Tbl, pairsOf (ksD D) (vsD D) = prs D
  | [] => rfl
  | e :: r => congrArg (PV.tup [key e.1, .int e.2] :: ·) (pairs_eq r)
theorem setD_new {p : Piece} {c : Int} : ∀ {D : Tbl}, (∀ e ∈ D, e.1 ≠ p) → setD p c D = D ++ [(p, c)]
  | [], _ => rfl
  | e :: r, h => by
    unfold setD
    rw [if_neg (h e (.head _)), setD_new fun x hx => h x (.tail _ hx)]; rfl
noncomputable def Apart (D : Tbl) : Prop := D.Pairwise fun a b => a.1 ≠ b.1
theorem sz_ks {D : Tbl} (h : D.length ≤ 1000000) : szOk (ksD D).length = true := decide_eq_true (by unfold ksD; rw [List.length_map]; exact h)
theorem put_go {D : Tbl} {p : Piece} {c : Int} {m1 : Mode} {t s : PV} {r : Vars} (h : D.length ≤ 1000000) : (bif keyP (key p) && (PV.int c).imm && szOk (ksD D).length then (putD2 (key p) (.int c) (ksD D) (vsD D)).bind fun q => some (WA m1 t s (.dict q.1 q.2) r) else none) = some (WA m1 t s (dic (setD p c D)) r) := by
  rw [key_keyP, sz_ks h, putD2_key]; rfl
theorem add_l1 {n : Nat} {m1 : Mode} {t s : PV} {D : Tbl} (ha : Apart D) (hl : D.length ≤ 1000000) : ∃ r, Two r ∧ xFor T05 (n + 9 + (prs D).length + 1) fA.scope (WA m1 t s (dic []) []) (tgtE l1) (loopB l1) (prs D) = some (.next (WA m1 t s (dic D) r)) := by
  obtain ⟨v, h, D1, D2, r, e1, e2, e3, e4⟩ := for_inv (T := T05) (c := 9) (sc := fA.scope) (t := tgtE l1) (b := loopB l1) (P := fun rem v => ∃ D1 D2 r, D1 ++ D2 = D ∧ rem = prs D2 ∧ v = WA m1 t s (dic D1) r ∧ Two r) (fun x xs v m hP => by
    obtain ⟨D1, D2, r, e1, e2, e3, e4⟩ := hP
    cases D2 with
    | nil => cases e2
    | cons e D2 =>
      obtain ⟨rfl, rfl⟩ := List.cons.inj e2
      rw [e3]
      refine ⟨_, _, add_b e4, add_s.trans (bind_go (bind_go (put_go ?_) rfl) rfl), D1 ++ [e], D2, [("func", .P, key e.1), ("caller", .P, .int e.2)], by rw [← e1, List.append_assoc]; rfl, rfl, ?_, .inr ⟨_, _, rfl⟩⟩
      · rw [← e1, List.length_append] at hl; (first | with_reducible exact Nat.le_trans (by assumption) (by decide) | lia | omega)
      · rw [setD_new]
        intro z hz
        rw [← e1] at ha
        exact (List.pairwise_append.mp ha).2.2 z hz e (.head _)) (prs D) (WA m1 t s (dic []) []) n ⟨[], D, [], rfl, rfl, rfl, .inl rfl⟩
  have : D2 = [] := by cases D2 with
    | nil => rfl
    | cons => cases e2
  rw [this, List.append_nil] at e1
  exact ⟨r, e4, by rw [h, e3, e1]⟩
theorem view_dic {m1 : Mode} {D : Tbl} (hm : m1 = .P ∨ m1 = .B) : (nameS (m1, dic D)).bind (viewP true "items") = some (prs D) := by
  rcases hm with rfl | rfl
  · exact (if_pos (c := (true || PV.imms (vsD D)) = true) (e := none) rfl).trans (congrArg some (pairs_eq D))
  · exact (if_pos (c := (false || PV.imms (vsD D)) = true) (e := none) (imms_ints D)).trans (congrArg some (pairs_eq D))
noncomputable def bump (p : Piece) (c : Int) (D : Tbl) : Tbl := setD p ((getD p D).getD 0 + c) D
noncomputable def nx (v : Vars) : Option Res := some (.next v)
theorem add_b2 {n : Nat} {m1 : Mode} {t s d k v : PV} {r : Vars} (h : Two r) : bindT (n + 9) fA.scope (tgtE l2) (.tup [k, v]) (WA m1 t s d r) = some (WA m1 t s d [("func", .P, k), ("caller", .P, v)]) := by
  rcases h with rfl | ⟨a, b, rfl⟩ <;> kernel_rfl
theorem add_s2 {n : Nat} {m1 : Mode} {t s k : PV} {c : Int} {ks vs : List PV} : xSs T05 (n + 15) fA.scope (WA m1 t s (.dict ks vs) [("func", .P, k), ("caller", .P, .int c)]) (loopB l2) =
    ((inP k (.dict ks vs)).bind fun b => bif b then ((((augD "new_callers" ks vs k .Add c (WA m1 t s (.dict ks vs) [("func", .P, k), ("caller", .P, .int c)])).bind nx).bind cFin).bind cFin)
      else ((bif keyP k && (PV.int c).imm && szOk ks.length then (putD2 k (.int c) ks vs).bind fun p => some (WA m1 t s (.dict p.1 p.2) [("func", .P, k), ("caller", .P, .int c)]) else none).bind nx).bind cFin).bind cFin := by kernel_rfl
theorem inP_key {p : Piece} {D : Tbl} : inP (key p) (.dict (ksD D) (vsD D)) = some (getD p D).isSome := by
  show (if keyP (key p) = true then (getD2 (key p) (ksD D) (vsD D)).bind fun o => some o.isSome else none) = _
  rw [key_keyP, if_pos rfl, getD2_key]
  show some ((getD p D).map PV.int).isSome = _
  rw [Option.isSome_map]
theorem augD_key {p : Piece} {c u : Int} {D : Tbl} {m1 : Mode} {t s : PV} {r : Vars} (h : getD p D = some u) (hl : D.length ≤ 1000000) : augD "new_callers" (ksD D) (vsD D) (key p) .Add c (WA m1 t s (dic D) r) = some (WA m1 t s (dic (setD p (u + c) D)) r) := by
  show (bif keyP (key p) && szOk (ksD D).length then (getD2 (key p) (ksD D) (vsD D)).bind fun o => o.bind fun u => (evalAug .Add u (.int c)).bind fun r' => (putD2 (key p) r' (ksD D) (vsD D)).bind fun q => some (setV "new_callers" (.O, .dict q.1 q.2) (WA m1 t s (dic D) r)) else none) = _
  rw [key_keyP, sz_ks hl, getD2_key, h]
  show ((putD2 (key p) (.int (u + c)) (ksD D) (vsD D)).bind fun q => some (setV "new_callers" (.O, .dict q.1 q.2) (WA m1 t s (dic D) r))) = _
  rw [putD2_key]
  rfl
theorem add_l2 {n : Nat} {m1 : Mode} {t s : PV} {D : Tbl} {p : Piece} {c : Int} (hl : D.length ≤ 1000000) : xSs T05 (n + 15) fA.scope (WA m1 t s (dic D) [("func", .P, key p), ("caller", .P, .int c)]) (loopB l2) = some (.next (WA m1 t s (dic (bump p c D)) [("func", .P, key p), ("caller", .P, .int c)])) := by
  refine add_s2.trans ?_
  rw [inP_key]
  cases h : getD p D with
  | some u =>
    refine bind_go (a := .next (WA m1 t s (dic (bump p c D)) [("func", .P, key p), ("caller", .P, .int c)])) ?_ rfl
    show ((((augD "new_callers" (ksD D) (vsD D) (key p) .Add c (WA m1 t s (dic D) [("func", .P, key p), ("caller", .P, .int c)])).bind nx).bind cFin).bind cFin) = _
    rw [augD_key h hl]
    unfold bump
    rw [h]; rfl
  | none =>
    refine bind_go (a := .next (WA m1 t s (dic (bump p c D)) [("func", .P, key p), ("caller", .P, .int c)])) ?_ rfl
    show ((bif keyP (key p) && (PV.int c).imm && szOk (ksD D).length then (putD2 (key p) (.int c) (ksD D) (vsD D)).bind fun q => some (WA m1 t s (.dict q.1 q.2) [("func", .P, key p), ("caller", .P, .int c)]) else none).bind nx).bind cFin = _
    rw [put_go hl]
    unfold bump
    rw [h]
    show some (Res.next (WA m1 t s (dic (setD p c D)) _)) = some (Res.next (WA m1 t s (dic (setD p (0 + c) D)) _))
    rw [Int.zero_add]
theorem for_one {T : Tab} {n : Nat} {sc : Scope} {t : Expr} {b : List Stmt} {v v1 v2 : Vars} {x : PV} (h1 : bindT (n + 1) sc t x v = some v1) (h2 : xSs T (n + 1) sc v1 b = some (.next v2)) : xFor T (n + 2) sc v t b [x] = some (.next v2) :=
  bind_go (o := bindT (n + 1) sc t x v) h1 (bind_go (o := xSs T (n + 1) sc v1 b) h2 rfl)
theorem add_2 {n : Nat} {m1 : Mode} {t d : PV} {p : Piece} {c : Int} {r : Vars} (h : Two r) : xS T05 (n + 20) fA.scope (WA m1 t (dic [(p, c)]) d r) l2 = xFor T05 (n + 19) fA.scope (WA m1 t (dic [(p, c)]) d r) (tgtE l2) (loopB l2) (prs [(p, c)]) := by
  rcases h with rfl | ⟨a, b, rfl⟩ <;> kernel_rfl
theorem add_3 {n : Nat} {m1 : Mode} {t s d : PV} {r : Vars} : xS T05 (n + 9) fA.scope (WA m1 t s d r) (nthS fA.body 3) = some (.ret d) := by kernel_rfl
theorem add_ss {n : Nat} {m1 : Mode} {D : Tbl} {p : Piece} {c : Int} (hm : m1 = .P ∨ m1 = .B) (ha : Apart D) (hl : D.length ≤ 1000000) : xSs T05 (n + 30 + D.length) fA.scope [("target", m1, dic D), ("source", .P, dic [(p, c)])] fA.body = some (.ret (dic (bump p c D))) := by
  obtain ⟨r, hr, e⟩ := add_l1 (n := n + 17) (m1 := m1) (t := dic D) (s := dic [(p, c)]) ha hl
  have hlen : (prs D).length = D.length := List.length_map ..
  rw [show n + 30 + D.length = n + D.length + 17 + 9 + 1 + 1 + 1 + 1 by (first | with_reducible exact Nat.le_trans (by assumption) (by decide) | lia | omega)]
  refine ss_step bA (add_0 (n := n + D.length + 20)) (ss_step rfl (v' := WA m1 (dic D) (dic [(p, c)]) (dic D) r) ?_ (ss_step rfl (v' := WA m1 (dic D) (dic [(p, c)]) (dic (bump p c D)) [("func", .P, key p), ("caller", .P, .int c)]) ?_ (ss_ret rfl (add_3 (n := n + D.length + 17)))))
  · refine (add_f (n := n + D.length + 19) (by rcases hm with rfl | rfl <;> exact nofun)).trans (bind_go (view_dic hm) ?_)
    rw [show n + D.length + 19 + 8 = n + 17 + 9 + (prs D).length + 1 by rw [hlen]; (first | with_reducible exact Nat.le_trans (by assumption) (by decide) | lia | omega)]
    exact e
  · exact (add_2 (n := n + D.length + 7) hr).trans (for_one (add_b2 (n := n + D.length + 16) hr) (add_l2 (n := n + D.length + 10) hl))
theorem add_call {n : Nat} {m1 : Mode} {D : Tbl} {p : Piece} {c : Int} (hm : m1 = .P ∨ m1 = .B) (ha : Apart D) (hl : D.length ≤ 1000000) : xCall T05 (n + 31 + D.length) fA [(m1, dic D), (.P, dic [(p, c)])] = some (dic (bump p c D)) := by
  rw [show n + 31 + D.length = n + 30 + D.length + 1 by (first | with_reducible exact Nat.le_trans (by assumption) (by decide) | lia | omega)]
  exact call_go (by kernel_rfl) (by kernel_rfl) (add_ss hm ha hl)
noncomputable def fN : Fn := (entZ T05 1).2
noncomputable def tot (D : Tbl) : Int := (D.map (·.2)).sum
end Mine
namespace Mine
open PySem
noncomputable def WN (m : Mode) (t nc : PV) (r : Vars) : Vars := ("callers", m, t) :: ("nc", .P, nc) :: r
noncomputable def ln : Stmt := nthS fN.body 1
theorem bN : fN.body = nthS fN.body 0 :: nthS fN.body 1 :: nthS fN.body 2 :: [] := by kernel_rfl
theorem cnt_0 {n : Nat} {m : Mode} {t : PV} : xS T05 (n + 9) fN.scope [("callers", m, t)] (nthS fN.body 0) = some (.next (WN m t (.int 0) [])) := by kernel_rfl
noncomputable def One (x : String) (r : Vars) : Prop := r = [] ∨ ∃ a : Mode × PV, r = [((Str.ofString x), a)]
theorem cnt_b {n : Nat} {m : Mode} {t nc v : PV} {r : Vars} (h : One "calls" r) : bindT (n + 9) fN.scope (tgtE ln) v (WN m t nc r) = some (WN m t nc [("calls", .P, v)]) := by
  rcases h with rfl | ⟨a, rfl⟩ <;> kernel_rfl
theorem cnt_s {n : Nat} {m : Mode} {t : PV} {a b : Int} : xSs T05 (n + 9) fN.scope (WN m t (.int a) [("calls", .P, .int b)]) (loopB ln) = some (.next (WN m t (.int (a + b)) [("calls", .P, .int b)])) := by kernel_rfl
theorem cnt_f {n : Nat} {m : Mode} {t : PV} (hm : m = .P ∨ m = .B) : xS T05 (n + 9) fN.scope (WN m t (.int 0) []) ln = ((nameS (m, t)).bind (viewP false "values")).bind fun items => xFor T05 (n + 8) fN.scope (WN m t (.int 0) []) (tgtE ln) (loopB ln) items := by
  rcases hm with rfl | rfl <;> kernel_rfl
theorem cnt_r {n : Nat} {m : Mode} {t nc : PV} {r : Vars} : xS T05 (n + 9) fN.scope (WN m t nc r) (nthS fN.body 2) = some (.ret nc) := by kernel_rfl
theorem view_vals {m : Mode} {D : Tbl} (hm : m = .P ∨ m = .B) : (nameS (m, dic D)).bind (viewP false "values") = some (vsD D) := by
  rcases hm with rfl | rfl
  · exact if_pos (c := (true || PV.imms (vsD D)) = true) (e := none) rfl
  · exact if_pos (c := (false || PV.imms (vsD D)) = true) (e := none) (imms_ints D)
theorem cnt_l {n : Nat} {m : Mode} {t : PV} (D : Tbl) : ∃ r, xFor T05 (n + 9 + (vsD D).length + 1) fN.scope (WN m t (.int 0) []) (tgtE ln) (loopB ln) (vsD D) = some (.next (WN m t (.int (tot D)) r)) := by
  obtain ⟨v, h, D2, a, r, e2, e3, e4, e5⟩ := for_inv (T := T05) (c := 9) (sc := fN.scope) (t := tgtE ln) (b := loopB ln) (P := fun rem v => ∃ D2 a r, rem = vsD D2 ∧ v = WN m t (.int a) r ∧ One "calls" r ∧ a + tot D2 = tot D) (fun x xs v k hP => by
    obtain ⟨D2, a, r, e2, e3, e4, e5⟩ := hP
    cases D2 with
    | nil => cases e2
    | cons e D2 =>
      obtain ⟨rfl, rfl⟩ := List.cons.inj e2
      rw [e3]
      exact ⟨_, _, cnt_b e4, cnt_s, D2, a + e.2, _, rfl, rfl, .inr ⟨_, rfl⟩, by rw [← e5]; show a + e.2 + _ = a + ((e :: D2).map (·.2)).sum; rw [List.map_cons, List.sum_cons, Int.add_assoc]; rfl⟩) (vsD D) (WN m t (.int 0) []) n ⟨D, 0, [], rfl, rfl, .inl rfl, Int.zero_add _⟩
  have : D2 = [] := by cases D2 with
    | nil => rfl
    | cons => cases e2
  rw [this] at e5
  have e6 : a = tot D := (Int.add_zero a).symm.trans e5
  exact ⟨r, by rw [h, e3, e6]⟩
theorem cnt_call {n : Nat} {m : Mode} {D : Tbl} (hm : m = .P ∨ m = .B) : xCall T05 (n + 30 + D.length) fN [(m, dic D)] = some (.int (tot D)) := by
  obtain ⟨r, e⟩ := cnt_l (n := n + 16) (m := m) (t := dic D) D
  have hlen : (vsD D).length = D.length := List.length_map ..
  rw [show n + 30 + D.length = n + D.length + 17 + 9 + 1 + 1 + 1 + 1 by (first | with_reducible exact Nat.le_trans (by assumption) (by decide) | lia | omega)]
  refine call_go (by kernel_rfl) (by kernel_rfl) (vars := [("callers", m, dic D)]) (ss_step bN (cnt_0 (n := n + D.length + 19)) (ss_step rfl (v' := WN m (dic D) (.int (tot D)) r) ?_ (ss_ret rfl (cnt_r (n := n + D.length + 17)))))
  refine (cnt_f (n := n + D.length + 18) hm).trans (bind_go (view_vals hm) ?_)
  rw [show n + D.length + 18 + 8 = n + 16 + 9 + (vsD D).length + 1 by rw [hlen]; (first | with_reducible exact Nat.le_trans (by assumption) (by decide) | lia | omega)]
  exact e
end Mine
namespace Mine
open PySem
theorem nl_nil (a : List Nat) : natsLt a [] = false := by cases a <;> rfl
theorem nl_cons (x y : Nat) (a b : List Nat) : natsLt (x :: a) (y :: b) = if x < y then true else if x == y then natsLt a b else false := rfl
theorem nl_lt {x y : Nat} {a b : List Nat} (h : x < y) : natsLt (x :: a) (y :: b) = true := if_pos h
theorem nl_eq {x : Nat} {a b : List Nat} : natsLt (x :: a) (x :: b) = natsLt a b := by rw [nl_cons, if_neg (Nat.lt_irrefl _), if_pos (beq_self_eq_true _)]
theorem nl_gt {x y : Nat} {a b : List Nat} (h : y < x) : natsLt (x :: a) (y :: b) = false := by
  rw [nl_cons, if_neg (Nat.lt_asymm h), if_neg]
  intro e; rw [eq_of_beq e] at h; exact Nat.lt_irrefl _ h
theorem nl_irr : ∀ a : List Nat, natsLt a a = false
  | [] => rfl
  | x :: a => by rw [nl_eq]; exact nl_irr a
theorem nl_tri : ∀ a b : List Nat, natsLt a b = true ∨ a = b ∨ natsLt b a = true
  | [], [] => .inr (.inl rfl)
  | [], _ :: _ => .inl rfl
  | _ :: _, [] => .inr (.inr rfl)
  | x :: a, y :: b => by
    rcases Nat.lt_trichotomy x y with h | rfl | h
    · exact .inl (nl_lt h)
    · rw [nl_eq, nl_eq]
      rcases nl_tri a b with h | rfl | h
      · exact .inl h
      · exact .inr (.inl rfl)
      · exact .inr (.inr h)
    · exact .inr (.inr (nl_lt h))
theorem nl_trans : ∀ {a b c : List Nat}, natsLt a b = true → natsLt b c = true → natsLt a c = true
  | a, b, [], _, h => by rw [nl_nil] at h; cases h
  | [], _, _ :: _, _, _ => rfl
  | x :: a, [], z :: c, h, _ => by rw [nl_nil] at h; cases h
  | x :: a, y :: b, z :: c, h, g => by
    rcases Nat.lt_trichotomy x y with q | rfl | q
    · rcases Nat.lt_trichotomy y z with p | rfl | p
      · exact nl_lt (Nat.lt_trans q p)
      · exact nl_lt q
      · rw [nl_gt p] at g; cases g
    · rcases Nat.lt_trichotomy x z with p | rfl | p
      · exact nl_lt p
      · rw [nl_eq] at *; exact nl_trans h g
      · rw [nl_gt p] at g; cases g
    · rw [nl_gt q] at h; cases h
theorem nl_asymm {a b : List Nat} (h : natsLt a b = true) : natsLt b a = false := by
  cases q : natsLt b a with
  | false => rfl
  | true => have := nl_trans h q; rw [nl_irr] at this; cases this
end Mine
namespace Mine
open PySem
noncomputable abbrev Wd := List Nat
noncomputable def ws (o : List Wd) : List PV := o.map .str
noncomputable def Up5 (o : List Wd) : Prop := o.Pairwise fun a b => natsLt a b = true
theorem split5 {α : Type} {o : List α} {P : α → Bool} (h : o.Pairwise fun a b => P b = true → P a = true) : ∃ k, k ≤ o.length ∧ (∀ a ∈ o.take k, P a = true) ∧ ∀ a ∈ o.drop k, P a = false := by
  induction o with
  | nil => exact ⟨0, Nat.le_refl _, fun a h => (by cases h), fun a h => (by cases h)⟩
  | cons x o ih =>
    rw [List.pairwise_cons] at h
    cases q : P x with
    | true =>
      obtain ⟨k, h1, h2, h3⟩ := ih h.2
      refine ⟨k + 1, Nat.succ_le_succ h1, fun a ha => ?_, h3⟩
      rcases List.mem_cons.mp ha with rfl | ha
      · exact q
      · exact h2 a ha
    | false =>
      refine ⟨0, Nat.zero_le _, fun a ha => (by cases ha), fun a ha => ?_⟩
      rcases List.mem_cons.mp ha with rfl | ha
      · exact q
      · cases p : P a with
        | false => rfl
        | true => rw [h.1 a ha p] at q; cases q
theorem at_take {α : Type} {l : List α} {k i : Nat} {x : α} (h : i < k) (e : l[i]? = some x) : x ∈ l.take k := by
  rw [← List.getElem?_take_of_lt h] at e; exact List.mem_of_getElem? e
theorem at_drop {α : Type} {l : List α} {k i : Nat} {x : α} (h : k ≤ i) (e : l[i]? = some x) : x ∈ l.drop k := by
  refine List.mem_of_getElem? (i := i - k) ?_
  rw [List.getElem?_drop, Nat.add_sub_cancel' h]; exact e
theorem str_lt (a b : Wd) : PV.lt (.str a) (.str b) = some (natsLt a b) := by kernel_rfl
structure At5 (o : List Wd) (x : Wd) (k : Nat) : Prop where
  le : k ≤ o.length
  lt : ∀ a ∈ o.take k, natsLt a x = true
  ge : ∀ a ∈ o.drop k, natsLt a x = false
theorem Up5.at5 {o : List Wd} (U : Up5 o) (x : Wd) : ∃ k, At5 o x k :=
  let ⟨k, h0, h1, h2⟩ := split5 (o := o) (P := fun a => natsLt a x) (U.imp fun h g => nl_trans h g)
  ⟨k, h0, h1, h2⟩
theorem At5.place {o : List Wd} {x : Wd} {k : Nat} (h : At5 o x k) : Place (ws o) (.str x) k where
  le := by unfold ws; rw [List.length_map]; exact h.le
  lt := fun i y hi e => by
    unfold ws at e
    rw [List.getElem?_map, Option.map_eq_some_iff] at e
    obtain ⟨a, ha, rfl⟩ := e
    rw [str_lt, h.lt a (at_take hi ha)]
  ge := fun i y hi e => by
    unfold ws at e
    rw [List.getElem?_map, Option.map_eq_some_iff] at e
    obtain ⟨a, ha, rfl⟩ := e
    rw [str_lt, h.ge a (at_drop hi ha)]
theorem At5.not_take {o : List Wd} {x : Wd} {k : Nat} (h : At5 o x k) : x ∉ o.take k := fun hx => by
  have := h.lt x hx; rw [nl_irr] at this; cases this
theorem At5.mem {o : List Wd} {x : Wd} {k : Nat} (U : Up5 o) (h : At5 o x k) : x ∈ o ↔ o[k]? = some x := by
  refine ⟨fun hx => ?_, List.mem_of_getElem?⟩
  have hd : x ∈ o.drop k := by
    rw [← List.take_append_drop k o, List.mem_append] at hx
    exact hx.resolve_left h.not_take
  cases e : o.drop k with
  | nil => rw [e] at hd; cases hd
  | cons y r =>
    have hy : o[k]? = some y := by
      have : (o.drop k)[0]? = some y := by rw [e]; rfl
      rw [List.getElem?_drop] at this; exact this
    rw [e] at hd
    rcases List.mem_cons.mp hd with rfl | hr
    · exact hy
    · have up : Up5 (y :: r) := e ▸ U.sublist (List.drop_sublist k o)
      have := h.ge y (e ▸ List.mem_cons_self ..)
      rw [(List.pairwise_cons.mp up).1 x hr] at this; cases this
noncomputable def ins5 (o : List Wd) (k : Nat) (x : Wd) : List Wd := o.take k ++ x :: o.drop k
theorem ins5_ws (o : List Wd) (k : Nat) (x : Wd) : insAt (ws o) k (.str x) = ws (ins5 o k x) := by
  unfold insAt ins5 ws
  rw [List.map_append, List.map_cons, List.map_take, List.map_drop]
theorem ins5_mem {o : List Wd} {k : Nat} {x y : Wd} : y ∈ ins5 o k x ↔ y = x ∨ y ∈ o := by
  unfold ins5
  rw [List.perm_middle.mem_iff, List.mem_cons, List.take_append_drop]
theorem At5.ins {o : List Wd} {x : Wd} {k : Nat} (U : Up5 o) (h : At5 o x k) (hx : x ∉ o) : Up5 (ins5 o k x) := by
  have up : Up5 o := U
  unfold Up5 at up
  rw [← List.take_append_drop k o, List.pairwise_append] at up
  unfold Up5 ins5
  rw [List.pairwise_append, List.pairwise_cons]
  refine ⟨up.1, ⟨fun b hb => ?_, up.2.1⟩, fun a ha b hb => ?_⟩
  · rcases nl_tri x b with q | q | q
    · exact q
    · exact absurd (q ▸ List.mem_of_mem_drop hb) hx
    · have := h.ge b hb; rw [q] at this; cases this
  · rcases List.mem_cons.mp hb with rfl | hb
    · exact h.lt a ha
    · exact up.2.2 a ha b hb
noncomputable def two0 (a b : Option (Bool × PV)) : Option (List (Bool × PV)) := a.bind fun v => (b.bind fun v => some [v]).bind fun vs => some (v :: vs)
noncomputable def cC2 (n : Nat) (f : Fn) (a b : Option (Bool × PV)) : Option (Bool × PV) := (two0 a b).bind fun as => (xCall T05 n f (as.map fun a => slotOf a.1 a.2)).bind fun v => some (true, v)
noncomputable def andT (o : Option Bool) (k : Option Bool) : Option Bool := o.bind fun b => bif b == true then k else some b
noncomputable def orT (o : Option Bool) (k : Option Bool) : Option Bool := o.bind fun b => bif b == false then k else some b
noncomputable def cCmpE (op : CmpOp) (ea eb : Option (Bool × PV)) : Option (Bool × PV) := ea.bind fun a => (eb.bind fun b => evalCmp op a.2 b.2).bind fun b => some (true, .bool b)
noncomputable def boolA (e : Option (Bool × PV)) (k : Option Bool) : Option Bool := (e.bind fun a => (boolP a.2).bind fun b => bif b == true then k else some b)
noncomputable def lastA (e : Option (Bool × PV)) : Option Bool := e.bind fun a => boolP a.2
noncomputable def lenE (w : PV) : Option (Bool × PV) := (lenP w).bind fun v => some (true, v)
noncomputable def cRt (e : Option (Bool × PV)) : Option Res := e.bind fun a => (pubP a).bind fun v => some (.ret v)
noncomputable def fH : Fn := (entZ T05 6).2
theorem bH : fH.body = nthS fH.body 0 :: nthS fH.body 1 :: [] := by kernel_rfl
noncomputable def H1 (o q : PV) : Vars := [("order", .P, o), ("one", .P, q)]
noncomputable def H2 (o q p : PV) : Vars := [("order", .P, o), ("one", .P, q), ("place", .P, p)]
theorem has_0 {n : Nat} {o q : PV} : xS T05 (n + 20) fH.scope (H1 o q) (nthS fH.body 0) = cAsg "place" (H1 o q) (cC2 (n + 17) fB (kc o) (kc q)) := by kernel_rfl
theorem has_1 {n : Nat} {o q p : PV} : xS T05 (n + 20) fH.scope (H2 o q p) (nthS fH.body 1) = cRt ((boolA (cCmpE .Lt (kc p) (lenE o)) (lastA (cCmpE .Eq (cItem (kc o) (kc p)) (kc q)))).bind fun b => some (true, .bool b)) := by kernel_rfl
end Mine
namespace Mine
open PySem
noncomputable def lsx (o : List Wd) : Wd → Wd
  | [] => []
  | c :: t => if c :: t ∈ o then c :: t else lsx o t
noncomputable def bk (o : List Wd) : Wd → Option Wd
  | [] => none
  | _ :: t => if t ∈ o then some t else bk o t
noncomputable def nes (o : List Wd) : Wd → List Wd
  | [] => []
  | c :: t => if c :: t ∈ o then (c :: t) :: nes o t else nes o t
structure Beg5 (o : List Wd) : Prop where
  nil : [] ∈ o
  pre : ∀ t c, t ++ [c] ∈ o → t ∈ o
theorem lsx_in {o : List Wd} : ∀ {t : Wd}, t ∈ o → lsx o t = t
  | [], _ => rfl
  | _ :: _, h => if_pos h
theorem lsx_out {o : List Wd} {c : Nat} {t : Wd} (h : c :: t ∉ o) : lsx o (c :: t) = lsx o t := if_neg h
theorem lsx_mem {o : List Wd} (B : Beg5 o) : ∀ t, lsx o t ∈ o
  | [] => B.nil
  | c :: t => by
    unfold lsx
    by_cases h : c :: t ∈ o
    · rw [if_pos h]; exact h
    · rw [if_neg h]; exact lsx_mem B t
theorem lsx_len (o : List Wd) : ∀ t, (lsx o t).length ≤ t.length
  | [] => Nat.le_refl _
  | c :: t => by
    unfold lsx
    by_cases h : c :: t ∈ o
    · rw [if_pos h]; exact Nat.le_refl _
    · rw [if_neg h]; exact Nat.le_succ_of_le (lsx_len o t)
theorem bk_cons {o : List Wd} (B : Beg5 o) : ∀ (t : Wd) (c : Nat), bk o (c :: t) = some (lsx o t)
  | [], c => if_pos B.nil
  | d :: t, c => by
    show (if d :: t ∈ o then some (d :: t) else bk o (d :: t)) = some (if d :: t ∈ o then d :: t else lsx o t)
    by_cases h : d :: t ∈ o
    · rw [if_pos h, if_pos h]
    · rw [if_neg h, if_neg h]; exact bk_cons B t d
theorem lsx_step {o : List Wd} (B : Beg5 o) (c : Nat) : ∀ t, lsx o (t ++ [c]) = lsx o (lsx o t ++ [c])
  | [] => rfl
  | d :: t => by
    by_cases h : d :: t ∈ o
    · rw [lsx_in h]
    · rw [lsx_out h, List.cons_append, lsx_out (t := t ++ [c]) (fun q => h (B.pre (d :: t) c q))]
      exact lsx_step B c t
theorem nes_lsx {o : List Wd} : ∀ t, nes o t = nes o (lsx o t)
  | [] => rfl
  | c :: t => by
    by_cases h : c :: t ∈ o
    · rw [lsx_in h]
    · rw [lsx_out h]
      show (if c :: t ∈ o then (c :: t) :: nes o t else nes o t) = _
      rw [if_neg h]; exact nes_lsx t
theorem nes_cons {o : List Wd} {c : Nat} {t : Wd} (h : c :: t ∈ o) : nes o (c :: t) = (c :: t) :: nes o (lsx o t) := by
  show (if c :: t ∈ o then (c :: t) :: nes o t else nes o t) = _
  rw [if_pos h, ← nes_lsx]
theorem suf_cons {u t : Wd} {c : Nat} : u <:+ c :: t ↔ u = c :: t ∨ u <:+ t := List.suffix_cons_iff
theorem suf_len {u t : Wd} {c : Nat} (h : u <:+ t) : u ≠ c :: t := fun e => by
  have := h.length_le; rw [e] at this; exact absurd this (Nat.not_succ_le_self _)
theorem nes_count {o : List Wd} {u : Wd} (hu : u ∈ o) (hn : u ≠ []) : ∀ t, (nes o t).count u = if u <:+ t then 1 else 0
  | [] => by
    rw [if_neg (fun h => hn (List.suffix_nil.mp h))]; rfl
  | c :: t => by
    have ih := nes_count hu hn t
    by_cases e : u = c :: t
    · rw [if_pos (e ▸ List.suffix_refl _)]
      rw [show nes o (c :: t) = (c :: t) :: nes o t from if_pos (e ▸ hu), List.count_cons, ih, if_neg (fun h => suf_len h e), beq_iff_eq.mpr e.symm]; rfl
    · have hs : (u <:+ c :: t) ↔ u <:+ t := suf_cons.trans (or_iff_right e)
      have key : (nes o (c :: t)).count u = (nes o t).count u := by
        by_cases q : c :: t ∈ o
        · rw [show nes o (c :: t) = (c :: t) :: nes o t from if_pos q, List.count_cons, beq_eq_false_iff_ne.mpr (Ne.symm e)]; rfl
        · rw [show nes o (c :: t) = nes o t from if_neg q]
      rw [key, ih]
      by_cases q : u <:+ t
      · rw [if_pos q, if_pos (hs.mpr q)]
      · rw [if_neg q, if_neg (fun h => q (hs.mp h))]
end Mine
namespace Mine
open PySem
noncomputable def lcElt : Expr → Expr
  | .ListComp e _ _ _ => e
  | _ => noE
noncomputable def lcSc : Expr → Scope
  | .ListComp _ _ s _ => s
  | _ => { kind := .function, names := [], isGenerator := false, isCoroutine := false, more := [] }
noncomputable def lcT : Expr → Expr
  | .ListComp _ (g :: _) _ _ => g.target
  | _ => noE
noncomputable def lcIfs : Expr → List Expr
  | .ListComp _ (g :: _) _ _ => g.ifs
  | _ => []
noncomputable def cComp (o : Option (List PV × Vars)) : Option (Bool × PV) := o.bind fun q => bif szOk q.1.length then some (true, .list q.1) else none
noncomputable def asgE : Stmt → Expr
  | .Assign _ e _ => e
  | .Return (some e) _ => e
  | .Expr e _ => e
  | _ => noE
noncomputable def argN (i : Nat) : Expr → Expr
  | .Call _ args _ _ => args.getD i noE
  | .Tuple es _ _ => es.getD i noE
  | _ => noE
noncomputable def pubL (V : Vars) (e : Option (Bool × PV)) : Option (List PV × Vars) := e.bind fun v => (pubP v).bind fun u => some ([u], V)
noncomputable def cO (e : Option (Bool × PV)) : Option (Option PV) := e.bind fun a => some (some a.2)
noncomputable def rng (n : Nat) : List PV := (List.range n).map fun (k : Nat) => .int k
noncomputable def lenR (w : PV) : Option (List PV) := (((lenP w).bind fun v => some (true, v)).bind fun v => some [v]).bind fun as => evalRange (as.map (·.2))
theorem cut_from {α : Type} {l : List α} {i : Nat} (h : i ≤ l.length) : cut l (some (i : Int)) none = l.drop i := by
  unfold cut clip
  have e : (max 0 (min (if (i : Int) < 0 then (i : Int) + l.length else i) (l.length : Int))).toNat = i := by
    rw [if_neg (a_pos i), a_clamp, Nat.min_eq_left h]
  show (l.drop _).take (l.length - _) = _
  rw [show ((some (i : Int)).elim 0 fun i => (max 0 (min (if i < 0 then i + ↑l.length else i) ↑l.length)).toNat) = i from e]
  exact List.take_of_length_le (by rw [List.length_drop]; exact Nat.le_refl _)
theorem cut_to {α : Type} {l : List α} {k : Nat} : cut l none (some (k : Int)) = l.take k := by
  unfold cut clip
  show (l.drop 0).take ((max 0 (min (if (k : Int) < 0 then (k : Int) + l.length else k) (l.length : Int))).toNat - 0) = _
  rw [if_neg (a_pos k), List.drop_zero, Nat.sub_zero, a_clamp]
  rcases Nat.le_total l.length k with h | h
  · rw [Nat.min_eq_right h, List.take_length, List.take_of_length_le h]
  · rw [Nat.min_eq_left h]
theorem bound_int (i : Int) : bound? (some (.int i)) = if smallI i = true then some (some i) else none := by simp only [bound?]
theorem bound_nat {i : Nat} (h : i ≤ 4000000) : bound? (some (.int i)) = some (some (i : Int)) := by rw [bound_int, sm_nat h, if_pos rfl]
theorem bound_none : bound? none = some none := by simp only [bound?]
theorem cut_str {w : List Nat} {lo hi : Option Int} (h : w.length ≤ 1000000) : evalCut (.str w) lo hi = some (.str (cut w lo hi)) := by
  simp only [evalCut]
  rw [if_pos (show szOk w.length = true from decide_eq_true h)]
theorem cutP_go {a : Bool × PV} {l h : Option PV} {lo hi : Option Int} {v : PV} (h1 : bound? l = some lo) (h2 : bound? h = some hi) (h3 : evalCut a.2 lo hi = some v) : cutP a l h = some (a.1 || okItems a.2, v) := by
  simp only [cutP, h1, h2, h3, Option.map_some]
theorem lenP_str {l : List Nat} (h : l.length ≤ 1000000) : lenP (.str l) = some (.int l.length) := if_pos (decide_eq_true h)
theorem lenE_str {l : List Nat} (h : l.length ≤ 1000000) : lenE (.str l) = some (true, .int l.length) := kcB (lenP_str h)
theorem lt_nat {i j : Nat} : evalCmp .Lt (.int i) (.int j) = some (decide (i < j)) := congrArg some (decide_eq_decide.mpr Int.ofNat_lt)
theorem andT_t {o k : Option Bool} (h : o = some true) : andT o k = k := by rw [h]; rfl
theorem andT_f {o k : Option Bool} (h : o = some false) : andT o k = some false := by rw [h]; rfl
theorem orT_f {o k : Option Bool} (h : o = some false) : orT o k = k := by rw [h]; rfl
theorem eq_str (a b : List Nat) : evalCmp .Eq (.str a) (.str b) = some (a == b) := by kernel_rfl
theorem ne_str (a b : List Nat) : evalCmp .NotEq (.str a) (.str b) = some (!(a == b)) := by kernel_rfl
theorem add_int (a b : Int) : evalBin .Add (.int a) (.int b) = some (.int (a + b)) := by kernel_rfl
theorem cut_list {l : List PV} {lo hi : Option Int} (h : l.length ≤ 1000000) : evalCut (.list l) lo hi = some (.list (cut l lo hi)) := by
  simp only [evalCut]
  rw [if_pos (show szOk l.length = true from decide_eq_true h)]
theorem two_go {a b : Option (Bool × PV)} {u v : Bool × PV} (h1 : a = some u) (h2 : b = some v) : two0 a b = some [u, v] := by rw [h1, h2]; rfl
theorem cCmpE_go {op : CmpOp} {ea eb : Option (Bool × PV)} {a b : PV} {f g : Bool} {c : Bool} (h1 : ea = some (f, a)) (h2 : eb = some (g, b)) (h : evalCmp op a b = some c) : cCmpE op ea eb = some (true, .bool c) := by
  rw [h1, h2]
  exact bind_go (o := evalCmp op a b) h rfl
theorem add_str {a b : List Nat} (h : a.length + b.length ≤ 1000000) : evalBin .Add (.str a) (.str b) = some (.str (a ++ b)) := by
  have e : evalBin .Add (.str a) (.str b) = if szOk (a.length + b.length) = true then some (PV.str (a ++ b)) else none := by kernel_rfl
  rw [e, if_pos (show szOk _ = true from decide_eq_true h)]
theorem range_two (a b : Int) : evalRange [.int a, .int b] = if (smallI a && smallI b) = true then some (rangeUp a b) else none := by kernel_rfl
theorem cComp_go {o : Option (List PV × Vars)} {l : List PV} {v : Vars} (h : o = some (l, v)) (hl : l.length ≤ 1000000) : cComp o = some (true, .list l) := by
  rw [h]
  show (bif szOk l.length then _ else _) = _
  rw [show szOk l.length = true from decide_eq_true hl]; rfl
theorem eqsL_self' {f : PV → PV → Option Bool} : ∀ {l : List PV}, (∀ x ∈ l, f x x = some true) → eqsL f l l = some true
  | [], _ => rfl
  | x :: l, h => by
    show both (f x x) (eqsL f l l) = _
    rw [h x (.head _), eqsL_self' fun y hy => h y (.tail _ hy)]; rfl
theorem range_int (b : Int) : evalRange [.int b] = if smallI b = true then some (rangeUp 0 b) else none := by kernel_rfl
theorem range_of {v : PV} {as : List (Bool × PV)} {r : Option (List PV)} (h : as.map (·.2) = [v]) (h2 : evalRange [v] = r) : evalRange (as.map (·.2)) = r := by rw [h]; exact h2
theorem eq_list_self {l : List PV} (h : ∀ x ∈ l, eqN 5 x x = some true) : PV.eq (.list l) (.list l) = some true := by
  show (if (l.length == l.length) = true then eqsL (eqN 5) l l else some false) = _
  rw [if_pos (beq_self_eq_true _)]
  exact eqsL_self' h
theorem ne_false {a b : PV} (h : PV.eq a b = some true) : evalCmp .NotEq a b = some false := by
  show (PV.eq a b).bind (fun c => some (!c)) = _
  rw [h]; rfl
theorem comp_inv {T : Tab} {c : Nat} {sc : Scope} {t : Expr} {ifs : List Expr} {rest : List Comprehension} {elt : Expr} {P : List PV → Vars → Prop} {g : PV → List PV}
    (step : ∀ x xs v m, P (x :: xs) v → ∃ v2, zCompStep (zRec T (m + c)) sc v t ifs rest elt x (m + c) = some (g x, v2) ∧ P xs v2) :
    ∀ (items : List PV) (v : Vars) (m : Nat), P items v → ∃ v', xComp T (m + c + items.length + 1) sc v t ifs rest elt items = some (items.flatMap g, v') ∧ P [] v'
  | [], v, m, h => ⟨v, rfl, h⟩
  | x :: xs, v, m, h => by
    obtain ⟨v2, h1, h2⟩ := step x xs v (m + xs.length + 1) h
    obtain ⟨v', h4, h5⟩ := comp_inv step xs v2 m h2
    refine ⟨v', ?_, h5⟩
    show xComp T (m + c + (xs.length + 1) + 1) sc v t ifs rest elt (x :: xs) = _
    rw [show m + c + (xs.length + 1) = m + xs.length + 1 + c by (first | with_reducible exact Nat.le_trans (by assumption) (by decide) | lia | omega)]
    refine bind_go (o := zCompStep (zRec T (m + xs.length + 1 + c)) sc v t ifs rest elt x (m + xs.length + 1 + c)) h1 (bind_go (o := xComp T (m + xs.length + 1 + c) sc v2 t ifs rest elt xs) (a := (xs.flatMap g, v')) ?_ ?_)
    · rw [show m + xs.length + 1 + c = m + c + xs.length + 1 by (first | with_reducible exact Nat.le_trans (by assumption) (by decide) | lia | omega)]
      exact h4
    · rw [List.flatMap_cons]
theorem rng_len (n : Nat) : (rng n).length = n := by unfold rng; rw [List.length_map, List.length_range]
theorem range_nat {n : Nat} (h : n ≤ 1000000) : evalRange [.int n] = some (rng n) := by
  rw [range_int, sm_nat (by (first | with_reducible exact Nat.le_trans (by assumption) (by decide) | lia | omega)), if_pos rfl]
  refine congrArg some ?_
  unfold rangeUp rng
  rw [show ((n : Int) - 0).toNat = n by (first | with_reducible exact Nat.le_trans (by assumption) (by decide) | lia | omega)]
  exact List.map_congr_left fun k _ => by rw [Int.zero_add]
theorem len_range {w : List Nat} (h : w.length ≤ 1000000) : ((((lenP (.str w)).bind fun v => some (true, v)).bind fun v => some [v]).bind fun as => evalRange (as.map (·.2))) = some (rng w.length) :=
  bind_go (bind_go (bind_go (lenP_str h) rfl) rfl) (range_of rfl (range_nat h))
theorem rng_drop {n i : Nat} {x : PV} {xs : List PV} (h : x :: xs = (rng n).drop i) : i < n ∧ x = .int i ∧ xs = (rng n).drop (i + 1) := by
  have hi : i < (rng n).length := by
    rcases Nat.lt_or_ge i (rng n).length with q | q
    · exact q
    · rw [List.drop_of_length_le q] at h; cases h
  have hn : (rng n).length = n := by unfold rng; rw [List.length_map, List.length_range]
  rw [List.drop_eq_getElem_cons hi] at h
  obtain ⟨h1, h2⟩ := List.cons.inj h
  refine ⟨hn ▸ hi, ?_, h2⟩
  rw [h1]; simp [rng]
theorem boolA_t {e : Option (Bool × PV)} {k : Option Bool} {f : Bool} (h : e = some (f, .bool true)) : boolA e k = k := by rw [h]; rfl
theorem boolA_f {e : Option (Bool × PV)} {k : Option Bool} {f : Bool} (h : e = some (f, .bool false)) : boolA e k = some false := by rw [h]; rfl
theorem lastA_go {e : Option (Bool × PV)} {f b : Bool} (h : e = some (f, .bool b)) : lastA e = some b := by rw [h]; rfl
theorem ws_len (o : List Wd) : (ws o).length = o.length := List.length_map ..
theorem bis5 {ma : Mode} {n k : Nat} {o : List Wd} {q : Wd} (h : At5 o q k) (hl : o.length ≤ 20) : xCall T05 (n + 60) fB [(ma, .list (ws o)), (.P, .str q)] = some (.int k) := by
  rw [show n + 60 = n + (29 - (ws o).length) + 31 + (ws o).length from (a_fuel (m := 60) (by rw [ws_len]; exact Nat.le_trans hl (by decide)) rfl).symm]
  exact bis_call h.place (by rw [ws_len]; exact Nat.le_trans hl (by decide))
theorem lenE_ws {o : List Wd} (hl : o.length ≤ 20) : lenE (.list (ws o)) = some (true, .int o.length) := by
  have := lenP_list (l := ws o) (by rw [ws_len]; exact Nat.le_trans hl (by decide))
  rw [ws_len] at this
  exact kcB this
theorem has_call {n : Nat} {o : List Wd} {q : Wd} (U : Up5 o) (hl : o.length ≤ 20) : xCall T05 (n + 70) fH [(.P, .list (ws o)), (.P, .str q)] = some (.bool (decide (q ∈ o))) := by
  obtain ⟨k, P⟩ := U.at5 q
  refine call_go (n := n + 69) (by kernel_rfl) (by kernel_rfl) (vars := H1 (.list (ws o)) (.str q)) (ss_step bH (v' := H2 (.list (ws o)) (.str q) (.int k)) ((has_0 (n := n + 48)).trans ?_) (ss_ret rfl ((has_1 (n := n + 47)).trans ?_)))
  · refine (cAsg_go (v := .int k) ?_).trans (by kernel_rfl)
    show (xCall T05 (n + 5 + 60) fB [(.P, .list (ws o)), (.P, .str q)]).bind (fun v => some (true, v)) = _
    rw [bis5 P hl]; rfl
  · have e1 : cCmpE .Lt (kc (.int k)) (lenE (.list (ws o))) = some (true, .bool (decide (k < o.length))) := cCmpE_go rfl (lenE_ws hl) lt_nat
    have e2 : ((boolA (cCmpE .Lt (kc (.int k)) (lenE (.list (ws o)))) (lastA (cCmpE .Eq (cItem (kc (.list (ws o))) (kc (.int k))) (kc (.str q))))).bind fun b => some (true, .bool b)) = some (true, PV.bool (decide (q ∈ o))) := by
      by_cases h : k < o.length
      · have hk : o[k]? = some o[k] := List.getElem?_eq_getElem h
        have hy : (ws o)[k]? = some (.str o[k]) := by unfold ws; rw [List.getElem?_map, hk]; rfl
        rw [boolA_t (e1.trans (by rw [decide_eq_true h])), lastA_go (cCmpE_go (ea := cItem (kc (.list (ws o))) (kc (.int k))) (eb := kc (.str q)) (cItem_go rfl rfl (sub_list hy (by rw [ws_len]; exact Nat.le_trans hl (by decide)))) rfl (eq_str _ _))]
        have : (o[k] == q) = decide (q ∈ o) := by
          rw [Bool.eq_iff_iff, beq_iff_eq, decide_eq_true_iff, P.mem U, hk, Option.some.injEq]
        rw [this]; rfl
      · rw [boolA_f (e1.trans (by rw [decide_eq_false h]))]
        have : ¬ q ∈ o := fun hq => h (List.getElem?_eq_some_iff.mp ((P.mem U).mp hq)).1
        rw [decide_eq_false this]; rfl
    rw [e2]; rfl
theorem has_C {n : Nat} {o : List Wd} {q : Wd} {e : Option (Bool × PV)} (U : Up5 o) (hl : o.length ≤ 20) (h : e = some (true, .str q)) : cC2 (n + 70) fH (kc (.list (ws o))) e = some (true, .bool (decide (q ∈ o))) := by
  rw [h]
  show (xCall T05 (n + 70) fH [(.P, .list (ws o)), (.P, .str q)]).bind (fun v => some (true, v)) = _
  rw [has_call U hl]; rfl
end Mine
namespace Mine
open PySem
theorem for_go {T : Tab} {m : Nat} {sc : Scope} {t : Expr} {b : List Stmt} {v v1 v2 : Vars} {x : PV} {xs : List PV} {r : Option Res} (h1 : bindT m sc t x v = some v1) (h2 : xSs T m sc v1 b = some (.next v2)) (h3 : xFor T m sc v2 t b xs = r) : xFor T (m + 1) sc v t b (x :: xs) = r :=
  bind_go (o := bindT m sc t x v) h1 (bind_go (o := xSs T m sc v1 b) h2 h3)
theorem for_ret {T : Tab} {m : Nat} {sc : Scope} {t : Expr} {b : List Stmt} {v v1 : Vars} {x u : PV} {xs : List PV} (h1 : bindT m sc t x v = some v1) (h2 : xSs T m sc v1 b = some (.ret u)) : xFor T (m + 1) sc v t b (x :: xs) = some (.ret u) :=
  bind_go (o := bindT m sc t x v) h1 (bind_go (o := xSs T m sc v1 b) h2 rfl)
noncomputable def ups : Nat → Nat → List PV
  | _, 0 => []
  | a, f + 1 => .int a :: ups (a + 1) f
theorem ups_eq : ∀ (f a : Nat), (List.range f).map (fun (k : Nat) => PV.int ((a : Int) + k)) = ups a f
  | 0, _ => rfl
  | f + 1, a => by
    rw [List.range_succ_eq_map, List.map_cons, List.map_map]
    show PV.int ((a : Int) + ((0 : Nat) : Int)) :: _ = PV.int a :: ups (a + 1) f
    rw [← ups_eq f (a + 1)]
    refine congr (congrArg _ (congrArg PV.int (Int.add_zero _))) (List.map_congr_left fun k _ => congrArg PV.int ?_)
    show (a : Int) + ((k + 1 : Nat) : Int) = ((a + 1 : Nat) : Int) + k
    (first | with_reducible exact Nat.le_trans (by assumption) (by decide) | lia | omega)
theorem range_ups {a b : Nat} (h : b ≤ 1000000) (hab : a ≤ b) : evalRange [.int a, .int b] = some (ups a (b - a)) := by
  rw [range_two, sm_nat (Nat.le_trans (Nat.le_trans hab h) (by decide)), sm_nat (Nat.le_trans h (by decide))]
  show some (rangeUp a b) = _
  unfold rangeUp
  rw [Int.toNat_sub, ups_eq]
noncomputable def fK : Fn := (entZ T05 7).2
noncomputable def lk : Stmt := nthS fK.body 0
theorem bK : fK.body = lk :: nthS fK.body 1 :: [] := by kernel_rfl
noncomputable def K0 (o q : PV) (r : Vars) : Vars := ("order", .P, o) :: ("one", .P, q) :: r
noncomputable def cFrom (q k : PV) : Option (Bool × PV) := cutP (true, q) (some k) none
noncomputable def upTo (q : PV) : Option (List PV) := (two0 (kc (.int 1)) (cBin .Add (lenE q) (kc (.int 1)))).bind fun as => evalRange (as.map (·.2))
theorem bk_f {n : Nat} {o q : PV} : xS T05 (n + 20) fK.scope (K0 o q []) lk = (upTo q).bind fun items => xFor T05 (n + 19) fK.scope (K0 o q []) (tgtE lk) (loopB lk) items := by kernel_rfl
theorem bk_b {n : Nat} {o q k : PV} {r : Vars} (h : One "k" r) : bindT (n + 9) fK.scope (tgtE lk) k (K0 o q r) = some (K0 o q [("k", .P, k)]) := by
  rcases h with rfl | ⟨a, rfl⟩ <;> kernel_rfl
theorem bk_1 {n : Nat} {o q k : PV} : xS T05 (n + 20) fK.scope (K0 o q [("k", .P, k)]) (nthS (loopB lk) 0) = (lastA (cC2 (n + 17) fH (kc o) (cFrom q k))).bind fun c => bif c then xSs T05 (n + 19) fK.scope (K0 o q [("k", .P, k)]) (thenOf (nthS (loopB lk) 0)) else some (.next (K0 o q [("k", .P, k)])) := by kernel_rfl
theorem bk_2 {n : Nat} {o q k : PV} : xS T05 (n + 20) fK.scope (K0 o q [("k", .P, k)]) (nthS (thenOf (nthS (loopB lk) 0)) 0) = cRt (cFrom q k) := by kernel_rfl
theorem bk_r {n : Nat} {o q : PV} {r : Vars} (h : One "k" r) : xS T05 (n + 20) fK.scope (K0 o q r) (nthS fK.body 1) = some (.ret .none) := by
  rcases h with rfl | ⟨a, rfl⟩ <;> kernel_rfl
theorem bk_bd : loopB lk = nthS (loopB lk) 0 :: [] := by kernel_rfl
theorem bk_th : thenOf (nthS (loopB lk) 0) = nthS (thenOf (nthS (loopB lk) 0)) 0 :: [] := by kernel_rfl
end Mine
namespace Mine
open PySem
theorem cFrom_go {q : Wd} {i : Nat} (h : i ≤ q.length) (hq : q.length ≤ 1000) : cFrom (.str q) (.int i) = some (true, .str (q.drop i)) := by
  have := cutP_go (a := (true, .str q)) (bound_nat (i := i) (Nat.le_trans h (Nat.le_trans hq (by decide)))) bound_none (cut_str (hi := none) (lo := some (i : Int)) (Nat.le_trans hq (by decide)))
  rw [cut_from h] at this
  exact this
theorem range_of2 {u v : PV} {as : List (Bool × PV)} {r : Option (List PV)} (h : as.map (·.2) = [u, v]) (h2 : evalRange [u, v] = r) : evalRange (as.map (·.2)) = r := by rw [h]; exact h2
theorem upTo_go {q : Wd} (hq : q.length ≤ 1000) : upTo (.str q) = some (ups 1 q.length) := by
  have := range_ups (a := 1) (b := q.length + 1) (by (first | with_reducible exact Nat.le_trans (by assumption) (by decide) | lia | omega)) (Nat.le_add_left 1 _)
  rw [Nat.add_sub_cancel] at this
  exact bind_go (two_go (u := (true, .int ((1 : Nat) : Int))) (v := (true, .int ((q.length + 1 : Nat) : Int))) (by kernel_rfl) (cBin_go (lenE_str (Nat.le_trans hq (by decide))) rfl (add_int _ _))) (range_of2 rfl this)
theorem cRt_go {e : Option (Bool × PV)} {v : PV} (h : e = some (true, v)) : cRt e = some (.ret v) := by rw [h]; rfl
theorem ifB_t {o : Option Bool} {a b r : Option Res} (h : o = some true) (h2 : a = r) : (o.bind fun c => bif c then a else b) = r := by rw [h]; exact h2
theorem ifB_f {o : Option Bool} {a b r : Option Res} (h : o = some false) (h2 : b = r) : (o.bind fun c => bif c then a else b) = r := by rw [h]; exact h2
noncomputable def ow : Option Wd → PV
  | some b => .str b
  | none => .none
theorem bk_loop {o : List Wd} (U : Up5 o) (hl : o.length ≤ 20) {q : Wd} (hq : q.length ≤ 1000) : ∀ (f i n : Nat) (r : Vars), i + f = q.length → One "k" r →
    ∃ r', One "k" r' ∧ xFor T05 (n + 90 + f + 1) fK.scope (K0 (.list (ws o)) (.str q) r) (tgtE lk) (loopB lk) (ups (i + 1) f) = some (match bk o (q.drop i) with | some b => .ret (.str b) | none => .next (K0 (.list (ws o)) (.str q) r'))
  | 0, i, n, r, h, hr => ⟨r, hr, by rw [List.drop_of_length_le (show q.length ≤ i from Nat.le_of_eq h.symm)]; rfl⟩
  | f + 1, i, n, r, h, hr => by
    have hi : i < q.length := by rw [← h]; exact Nat.lt_add_of_pos_right (Nat.succ_pos f)
    have h' : i + 1 + f = q.length := (Nat.add_right_comm i 1 f).trans h
    rw [List.drop_eq_getElem_cons hi]
    have e1 : lastA (cC2 (n + f + 70 + 17) fH (kc (.list (ws o))) (cFrom (.str q) (.int ((i + 1 : Nat) : Int)))) = some (decide (q.drop (i + 1) ∈ o)) := by
      rw [show n + f + 70 + 17 = n + f + 17 + 70 from rfl]
      exact lastA_go (has_C U hl (cFrom_go hi hq))
    show ∃ r', One "k" r' ∧ xFor T05 (n + 90 + f + 1 + 1) fK.scope (K0 (.list (ws o)) (.str q) r) (tgtE lk) (loopB lk) (.int ((i + 1 : Nat) : Int) :: ups (i + 1 + 1) f) = some (match (if q.drop (i + 1) ∈ o then some (q.drop (i + 1)) else bk o (q.drop (i + 1))) with | some b => .ret (.str b) | none => .next (K0 (.list (ws o)) (.str q) r'))
    have eb : bindT (n + 90 + f + 1) fK.scope (tgtE lk) (.int ((i + 1 : Nat) : Int)) (K0 (.list (ws o)) (.str q) r) = some (K0 (.list (ws o)) (.str q) [("k", .P, .int ((i + 1 : Nat) : Int))]) := by
      rw [show n + 90 + f + 1 = n + f + 82 + 9 from congrArg (· + 1) (Nat.add_right_comm n 90 f)]; exact bk_b hr
    have e0 : n + 90 + f = n + f + 70 + 20 := Nat.add_right_comm n 90 f
    by_cases hm : q.drop (i + 1) ∈ o
    · rw [if_pos hm]
      refine ⟨r, hr, for_ret eb (ss_ret bk_bd ?_)⟩
      rw [e0]
      exact (bk_1 (n := n + f + 70)).trans (ifB_t (e1.trans (congrArg some (decide_eq_true hm))) (ss_ret (n := n + f + 88) bk_th ((bk_2 (n := n + f + 68)).trans (cRt_go (cFrom_go hi hq)))))
    · rw [if_neg hm]
      obtain ⟨r', hr', ih⟩ := bk_loop U hl hq f (i + 1) n [("k", .P, .int ((i + 1 : Nat) : Int))] h' (.inr ⟨_, rfl⟩)
      refine ⟨r', hr', for_go eb (ss_step bk_bd (v' := K0 (.list (ws o)) (.str q) [("k", .P, .int ((i + 1 : Nat) : Int))]) ?_ (by rw [e0]; exact ss_nil rfl)) ih⟩
      rw [e0]
      exact (bk_1 (n := n + f + 70)).trans (ifB_f (e1.trans (congrArg some (decide_eq_false hm))) rfl)
theorem back_call {n : Nat} {o : List Wd} (U : Up5 o) (hl : o.length ≤ 20) {q : Wd} (hq : q.length ≤ 20) : xCall T05 (n + 114) fK [(.P, .list (ws o)), (.P, .str q)] = some (ow (bk o q)) := by
  obtain ⟨r, hr, e⟩ := bk_loop U hl (Nat.le_trans hq (by decide)) q.length 0 (n + (20 - q.length)) [] (Nat.zero_add _) (.inl rfl)
  rw [a_fuel1 (m := 111) hq rfl] at e
  have e1 : xS T05 (n + 112) fK.scope (K0 (.list (ws o)) (.str q) []) lk = _ := (bk_f (n := n + 92)).trans ((bind_go (upTo_go (Nat.le_trans hq (by decide))) e))
  refine call_go (n := n + 113) (by kernel_rfl) (by kernel_rfl) (vars := K0 (.list (ws o)) (.str q) []) ?_
  cases hb : bk o q with
  | some b =>
    rw [List.drop_zero, hb] at e1
    exact ss_ret bK e1
  | none =>
    rw [List.drop_zero, hb] at e1
    exact ss_step bK e1 (ss_ret rfl (bk_r (n := n + 91) hr))
theorem back_C {n : Nat} {o : List Wd} {q : Wd} (U : Up5 o) (hl : o.length ≤ 20) (hq : q.length ≤ 20) : cC2 (n + 114) fK (kc (.list (ws o))) (kc (.str q)) = some (true, ow (bk o q)) := by
  show (xCall T05 (n + 114) fK [(.P, .list (ws o)), (.P, .str q)]).bind (fun v => some (true, v)) = _
  rw [back_call U hl hq]; rfl
noncomputable def fG : Fn := (entZ T05 8).2
noncomputable def wG : Stmt := nthS fG.body 0
noncomputable def G0 (o q c : PV) : Vars := [("order", .P, o), ("one", .P, q), ("letter", .P, c)]
theorem bG : fG.body = wG :: nthS fG.body 1 :: [] := by kernel_rfl
theorem gs_bd : loopB wG = nthS (loopB wG) 0 :: nthS (loopB wG) 1 :: nthS (loopB wG) 2 :: [] := by kernel_rfl
theorem gs_th : thenOf (nthS (loopB wG) 0) = nthS (thenOf (nthS (loopB wG) 0)) 0 :: [] := by kernel_rfl
theorem gs_w {n : Nat} {o q c : PV} : xS T05 (n + 20) fG.scope (G0 o q c) wG = xWhile T05 (n + 19) fG.scope (G0 o q c) (testOf wG) (loopB wG) := by kernel_rfl
theorem gs_t {n : Nat} {o q c : PV} : xT T05 (n + 20) fG.scope (G0 o q c) (testOf wG) = (lastA (cC2 (n + 17) fH (kc o) (cBin .Add (kc q) (kc c)))).bind fun b => some (!b) := by kernel_rfl
theorem gs_1 {n : Nat} {o q c : PV} : xS T05 (n + 20) fG.scope (G0 o q c) (nthS (loopB wG) 0) = (cCmpT .Eq (kc q) (kc (.str []))).bind fun b => bif b then xSs T05 (n + 19) fG.scope (G0 o q c) (thenOf (nthS (loopB wG) 0)) else some (.next (G0 o q c)) := by kernel_rfl
theorem gs_1r {n : Nat} {o q c : PV} : xS T05 (n + 20) fG.scope (G0 o q c) (nthS (thenOf (nthS (loopB wG) 0)) 0) = some (.ret (.str [])) := by kernel_rfl
theorem gs_2 {n : Nat} {o q c : PV} : xS T05 (n + 20) fG.scope (G0 o q c) (nthS (loopB wG) 1) = cAsg "one" (G0 o q c) (cC2 (n + 17) fK (kc o) (kc q)) := by kernel_rfl
theorem gs_3 {n : Nat} {o c : PV} {q : Wd} : xS T05 (n + 20) fG.scope (G0 o (.str q) c) (nthS (loopB wG) 2) = some (.next (G0 o (.str q) c)) := by kernel_rfl
theorem gs_r {n : Nat} {o q c : PV} : xS T05 (n + 20) fG.scope (G0 o q c) (nthS fG.body 1) = cRt (cBin .Add (kc q) (kc c)) := by kernel_rfl
end Mine
namespace Mine
open PySem
theorem while_ret {T : Tab} {n : Nat} {sc : Scope} {v : Vars} {t : Expr} {b : List Stmt} {u : PV} (ht : xT T n sc v t = some true) (hb : xSs T n sc v b = some (.ret u)) : xWhile T (n + 1) sc v t b = some (.ret u) :=
  bind_go (o := xT T n sc v t) ht (bind_go (o := xSs T n sc v b) hb rfl)
theorem not_go {o : Option Bool} {b : Bool} (h : o = some b) : (o.bind fun b => some (!b)) = some (!b) := by rw [h]; rfl
theorem add_let {q : Wd} {c : Nat} (hq : q.length ≤ 1000) : cBin .Add (kc (.str q)) (kc (.str [c])) = some (true, .str (q ++ [c])) := cBin_go rfl rfl (add_str (by show q.length + 1 ≤ _; (first | with_reducible exact Nat.le_trans (by assumption) (by decide) | lia | omega)))
theorem gs_test {n : Nat} {o : List Wd} (U : Up5 o) (hl : o.length ≤ 20) {q : Wd} {c : Nat} (hq : q.length ≤ 20) : xT T05 (n + 73) fG.scope (G0 (.list (ws o)) (.str q) (.str [c])) (testOf wG) = some (!decide (q ++ [c] ∈ o)) := by
  refine (gs_t (n := n + 53)).trans (not_go ?_)
  rw [show n + 53 + 17 = n + 70 from rfl]
  exact lastA_go (has_C U hl (add_let (Nat.le_trans hq (by decide))))
theorem gs_nil {n : Nat} {o c : PV} : xSs T05 (n + 40) fG.scope (G0 o (.str []) c) (loopB wG) = some (.ret (.str [])) :=
  ss_ret (n := n + 39) gs_bd ((gs_1 (n := n + 19)).trans (ifB_t (cCmpT_go rfl rfl (eq_str [] [])) (ss_ret (n := n + 37) gs_th (gs_1r (n := n + 17)))))
theorem gs_more {n : Nat} {o : List Wd} (U : Up5 o) (B : Beg5 o) (hl : o.length ≤ 20) {d : Nat} {t : Wd} {c : PV} (hq : (d :: t).length ≤ 20) : xSs T05 (n + 133) fG.scope (G0 (.list (ws o)) (.str (d :: t)) c) (loopB wG) = some (.next (G0 (.list (ws o)) (.str (lsx o t)) c)) := by
  refine ss_step (n := n + 132) gs_bd (v' := G0 (.list (ws o)) (.str (d :: t)) c) ((gs_1 (n := n + 112)).trans (ifB_f (cCmpT_go rfl rfl (eq_str _ _)) rfl)) (ss_step (n := n + 131) rfl (v' := G0 (.list (ws o)) (.str (lsx o t)) c) ((gs_2 (n := n + 111)).trans ?_) (ss_step (n := n + 130) rfl (gs_3 (n := n + 110)) (ss_nil rfl)))
  rw [show n + 111 + 17 = n + 14 + 114 from rfl, back_C U hl hq, bk_cons B]
  kernel_rfl
theorem gs_while {o : List Wd} (U : Up5 o) (B : Beg5 o) (hl : o.length ≤ 20) {c : Nat} : ∀ (f n : Nat) (q : Wd), q.length ≤ f → f ≤ 20 →
    ∃ r, xWhile T05 (n + 140 + f + 1) fG.scope (G0 (.list (ws o)) (.str q) (.str [c])) (testOf wG) (loopB wG) = some r ∧ (r = .ret (.str (lsx o (q ++ [c]))) ∨ ∃ q', r = .next (G0 (.list (ws o)) (.str q') (.str [c])) ∧ q' ++ [c] = lsx o (q ++ [c]) ∧ q'.length ≤ q.length) := by
  intro f
  induction f with
  | zero =>
    intro n q hq _
    obtain rfl := List.length_eq_zero_iff.mp (Nat.le_zero.mp hq)
    have et := gs_test (n := n + 67) (q := []) (c := c) U hl (Nat.zero_le _)
    by_cases h : [] ++ [c] ∈ o
    · rw [decide_eq_true h] at et
      exact ⟨_, while_end et, .inr ⟨[], rfl, (lsx_in h).symm, Nat.le_refl _⟩⟩
    · rw [decide_eq_false h] at et
      exact ⟨_, while_ret et (gs_nil (n := n + 100)), .inl (by rw [List.nil_append, lsx_out h]; rfl)⟩
  | succ f ih =>
    intro n q hq hf
    have e0 : n + 140 + (f + 1) = n + f + 68 + 73 := by (first | with_reducible exact Nat.le_trans (by assumption) (by decide) | lia | omega)
    have et := gs_test (n := n + f + 68) (q := q) (c := c) U hl (Nat.le_trans hq hf)
    rw [← e0] at et
    by_cases h : q ++ [c] ∈ o
    · rw [decide_eq_true h] at et
      exact ⟨_, while_end et, .inr ⟨q, rfl, (lsx_in h).symm, Nat.le_refl _⟩⟩
    · rw [decide_eq_false h] at et
      cases q with
      | nil =>
        refine ⟨_, while_ret et ?_, .inl (by rw [List.nil_append, lsx_out h])⟩
        rw [show n + 140 + (f + 1) = n + f + 101 + 40 by (first | with_reducible exact Nat.le_trans (by assumption) (by decide) | lia | omega)]
        exact gs_nil
      | cons d t =>
        have ht : (lsx o t).length ≤ t.length := lsx_len o t
        obtain ⟨r, e, hr⟩ := ih n (lsx o t) (Nat.le_trans ht (Nat.le_of_succ_le_succ hq)) (Nat.le_trans (Nat.le_succ f) hf)
        have el : lsx o (d :: t ++ [c]) = lsx o (lsx o t ++ [c]) := by
          rw [← lsx_step B]; exact lsx_out (t := t ++ [c]) h
        refine ⟨r, while_go et ?_ e, ?_⟩
        · rw [show n + 140 + (f + 1) = n + f + 8 + 133 by (first | with_reducible exact Nat.le_trans (by assumption) (by decide) | lia | omega)]
          exact gs_more U B hl (Nat.le_trans hq hf)
        · rw [el]
          exact hr.imp id fun ⟨q', a, b, c⟩ => ⟨q', a, b, Nat.le_trans c (Nat.le_succ_of_le ht)⟩
theorem goes_call {n : Nat} {o : List Wd} (U : Up5 o) (B : Beg5 o) (hl : o.length ≤ 20) {q : Wd} {c : Nat} (hq : q.length ≤ 20) : xCall T05 (n + 185) fG [(.P, .list (ws o)), (.P, .str q), (.P, .str [c])] = some (.str (lsx o (q ++ [c]))) := by
  obtain ⟨r, e, hr⟩ := gs_while (c := c) U B hl 20 (n + 21) q hq (Nat.le_refl _)
  refine call_go (n := n + 184) (by kernel_rfl) (by kernel_rfl) (vars := G0 (.list (ws o)) (.str q) (.str [c])) ?_
  have e1 : xS T05 (n + 183) fG.scope (G0 (.list (ws o)) (.str q) (.str [c])) wG = some r := (gs_w (n := n + 163)).trans e
  rcases hr with rfl | ⟨q', rfl, hr, hq'⟩
  · exact ss_ret bG e1
  · refine ss_step bG e1 (ss_ret rfl ((gs_r (n := n + 162)).trans (cRt_go ?_)))
    rw [add_let (Nat.le_trans hq' (Nat.le_trans hq (by decide))), hr]
noncomputable def cC3 (n : Nat) (f : Fn) (a b c : Option (Bool × PV)) : Option (Bool × PV) := ((a.bind fun v => (two0 b c).bind fun vs => some (v :: vs)).bind fun as => (xCall T05 n f (as.map fun a => slotOf a.1 a.2)).bind fun v => some (true, v))
theorem goes_C {n : Nat} {o : List Wd} (U : Up5 o) (B : Beg5 o) (hl : o.length ≤ 20) {q : Wd} {c : Nat} (hq : q.length ≤ 20) : cC3 (n + 185) fG (kc (.list (ws o))) (kc (.str q)) (kc (.str [c])) = some (true, .str (lsx o (q ++ [c]))) := by
  show (xCall T05 (n + 185) fG [(.P, .list (ws o)), (.P, .str q), (.P, .str [c])]).bind (fun v => some (true, v)) = _
  rw [goes_call U B hl hq]; rfl
end Mine
namespace Mine
open PySem
noncomputable def Tm (m : Mode) : Prop := m = .P ∨ m = .O
theorem nm_dic {m : Mode} {D : Tbl} (h : Tm m) : ∃ f m1, nm m (dic D) = some (f, dic D) ∧ slotOf f (dic D) = (m1, dic D) ∧ (m1 = .P ∨ m1 = .B) := by
  rcases h with rfl | rfl
  · exact ⟨true, .P, rfl, rfl, .inl rfl⟩
  · exact ⟨false, .B, rfl, rfl, .inr rfl⟩
theorem pair_key (p : Piece) : pair1 (key p) (.int 1) = some (true, dic [(p, 1)]) := by
  have e : pair1 (key p) (.int 1) = if (keyP (key p) && (PV.int 1).imm) = true then some (true, .dict [key p] [.int 1]) else none := by kernel_rfl
  rw [e, key_keyP]; rfl
theorem setD_fst {p : Piece} {c : Int} : ∀ {D : Tbl}, ∀ e ∈ setD p c D, e.1 = p ∨ ∃ d ∈ D, d.1 = e.1
  | [], e, h => by
    rw [List.mem_singleton.mp h]; exact .inl rfl
  | d :: D, e, h => by
    unfold setD at h
    by_cases q : d.1 = p
    · rw [if_pos q] at h
      rcases List.mem_cons.mp h with rfl | h
      · exact .inl q
      · exact .inr ⟨e, .tail _ h, rfl⟩
    · rw [if_neg q] at h
      rcases List.mem_cons.mp h with rfl | h
      · exact .inr ⟨_, .head _, rfl⟩
      · rcases setD_fst e h with h | ⟨x, hx, h⟩
        · exact .inl h
        · exact .inr ⟨x, .tail _ hx, h⟩
theorem setD_apart {p : Piece} {c : Int} : ∀ {D : Tbl}, Apart D → Apart (setD p c D)
  | [], _ => List.pairwise_singleton _ _
  | d :: D, h => by
    unfold Apart at h ⊢
    unfold setD
    rw [List.pairwise_cons] at h
    by_cases q : d.1 = p
    · rw [if_pos q]
      exact List.pairwise_cons.mpr ⟨h.1, h.2⟩
    · rw [if_neg q]
      refine List.pairwise_cons.mpr ⟨fun e he => ?_, setD_apart h.2⟩
      rcases setD_fst e he with z | ⟨x, hx, z⟩
      · rw [z]; exact q
      · rw [← z]; exact h.1 x hx
theorem setD_len {p : Piece} {c : Int} : ∀ {D : Tbl}, (setD p c D).length ≤ D.length + 1
  | [] => Nat.le_refl _
  | d :: D => by
    unfold setD
    by_cases q : d.1 = p
    · rw [if_pos q]; exact Nat.le_succ _
    · rw [if_neg q]; exact Nat.succ_le_succ setD_len
noncomputable def bumps (D : Tbl) (ps : List Piece) : Tbl := ps.foldl (fun D p => bump p 1 D) D
theorem bumps_apart : ∀ {ps : List Piece} {D : Tbl}, Apart D → Apart (bumps D ps)
  | [], _, h => h
  | _ :: ps, _, h => bumps_apart (ps := ps) (setD_apart h)
theorem bumps_len : ∀ {ps : List Piece} {D : Tbl}, (bumps D ps).length ≤ D.length + ps.length
  | [], _ => Nat.le_refl _
  | p :: ps, D => by
    have h1 := bumps_len (ps := ps) (D := bump p 1 D)
    have h2 : (bump p 1 D).length ≤ D.length + 1 := setD_len
    show (bumps (bump p 1 D) ps).length ≤ D.length + (ps.length + 1)
    (first | with_reducible exact Nat.le_trans (by assumption) (by decide) | lia | omega)
theorem bumps_app {D : Tbl} {a b : List Piece} : bumps D (a ++ b) = bumps (bumps D a) b := List.foldl_append ..
noncomputable def cC1 (n : Nat) (f : Fn) (a : Option (Bool × PV)) : Option (Bool × PV) := (a.bind fun v => some [v]).bind fun as => (xCall T05 n f (as.map fun a => slotOf a.1 a.2)).bind fun v => some (true, v)
noncomputable def fE : Fn := (entZ T05 9).2
noncomputable def fBg : Fn := (entZ T05 5).2
noncomputable def lE : Stmt := nthS fE.body 1
noncomputable def wE : Stmt := nthS (loopB lE) 3
noncomputable def iE : Stmt := nthS (loopB wE) 0
noncomputable def tE : Stmt := nthS (thenOf iE) 0
noncomputable def E0 (w tx : PV) : Vars := [("words", .P, w), ("text", .P, tx)]
noncomputable def E1 (w tx o h : PV) (m : Mode) (t : PV) (r : Vars) : Vars := ("words", .P, w) :: ("text", .P, tx) :: ("table", m, t) :: ("here", .P, h) :: ("order", .P, o) :: r
noncomputable def PL (p l : PV) (r : Vars) : Vars := ("place", .P, p) :: ("letter", .P, l) :: r
noncomputable def R0 (r : Vars) : Prop := r = [] ∨ (∃ a : Mode × PV, r = [(("one" : Str), a)]) ∨ ∃ a b : Mode × PV, r = [(("one" : Str), a), (("turn" : Str), b)]
noncomputable def R1o (v : PV) (r : Vars) : Prop := r = [(("one" : Str), (Mode.P, v))] ∨ ∃ b : Mode × PV, r = [(("one" : Str), (Mode.P, v)), (("turn" : Str), b)]
theorem bE : fE.body = nthS fE.body 0 :: lE :: nthS fE.body 2 :: [] := by kernel_rfl
theorem bE1 : loopB lE = nthS (loopB lE) 0 :: nthS (loopB lE) 1 :: nthS (loopB lE) 2 :: wE :: [] := by kernel_rfl
theorem bE3 : loopB wE = iE :: nthS (loopB wE) 1 :: [] := by kernel_rfl
theorem bE4 : thenOf iE = tE :: [] := by kernel_rfl
theorem bE5 : loopB tE = nthS (loopB tE) 0 :: [] := by kernel_rfl
theorem en_0 {n : Nat} {w tx : PV} : xS T05 (n + 20) fE.scope (E0 w tx) (nthS fE.body 0) = (((cC1 (n + 16) fBg (kc w)).bind pubM).bind fun s => some (s :: [(.P, .str []), (.O, .dict [] [])])).bind fun ss => (setBoth (true, ["order", "here", "table"]) ss (E0 w tx)).bind fun v => some (.next v) := by kernel_rfl
theorem en_f {n : Nat} {w o h t : PV} {m : Mode} {l : Wd} : xS T05 (n + 20) fE.scope (E1 w (.str l) o h m t []) lE = xFor T05 (n + 19) fE.scope (E1 w (.str l) o h m t []) (tgtE lE) (loopB lE) (enumFrom 0 (l.map fun c => .str [c])) := by kernel_rfl
theorem en_b {n : Nat} {w tx o h t p l a b : PV} {m : Mode} {r : Vars} (hr : r = [] ∨ ∃ q, R0 q ∧ r = PL a b q) : ∃ q, R0 q ∧ bindT (n + 9) fE.scope (tgtE lE) (.tup [p, l]) (E1 w tx o h m t r) = some (E1 w tx o h m t (PL p l q)) := by
  rcases hr with rfl | ⟨q, hq, rfl⟩
  · exact ⟨[], .inl rfl, by kernel_rfl⟩
  · refine ⟨q, hq, ?_⟩
    rcases hq with rfl | ⟨a, rfl⟩ | ⟨a, b, rfl⟩ <;> kernel_rfl
theorem en_1 {n : Nat} {w tx o h t p l : PV} {m : Mode} {r : Vars} (hr : R0 r) : xS T05 (n + 20) fE.scope (E1 w tx o h m t (PL p l r)) (nthS (loopB lE) 0) = ((cC3 (n + 17) fG (kc o) (kc h) (kc l)).bind pubM).bind fun s => some (.next (("words", .P, w) :: ("text", .P, tx) :: ("table", m, t) :: ("here", s) :: ("order", .P, o) :: PL p l r)) := by
  rcases hr with rfl | ⟨a, rfl⟩ | ⟨a, b, rfl⟩ <;> kernel_rfl
theorem en_2 {n : Nat} {w tx o t l : PV} {q : Wd} {p : Int} {m : Mode} {r : Vars} (hr : R0 r) : xS T05 (n + 20) fE.scope (E1 w tx o (.str q) m t (PL (.int p) l r)) (nthS (loopB lE) 1) = (orT (cCmpT .Gt (lenE (.str q)) (cBin .Add (kc (.int p)) (kc (.int 1)))) (some false)).bind fun c => bif c then xSs T05 (n + 19) fE.scope (E1 w tx o (.str q) m t (PL (.int p) l r)) (thenOf (nthS (loopB lE) 1)) else some (.next (E1 w tx o (.str q) m t (PL (.int p) l r))) := by
  rcases hr with rfl | ⟨a, rfl⟩ | ⟨a, b, rfl⟩ <;> kernel_rfl
theorem en_3 {n : Nat} {w tx o h t p l : PV} {m : Mode} {r : Vars} (hr : R0 r) : ∃ q, R1o h q ∧ xS T05 (n + 20) fE.scope (E1 w tx o h m t (PL p l r)) (nthS (loopB lE) 2) = some (.next (E1 w tx o h m t (PL p l q))) := by
  rcases hr with rfl | ⟨a, rfl⟩ | ⟨a, b, rfl⟩
  · exact ⟨_, .inl rfl, by kernel_rfl⟩
  · exact ⟨_, .inl rfl, by kernel_rfl⟩
  · exact ⟨_, .inr ⟨b, rfl⟩, by kernel_rfl⟩
theorem en_w {n : Nat} {w tx o h t p l a : PV} {m : Mode} {r : Vars} (hr : R1o a r) : xS T05 (n + 20) fE.scope (E1 w tx o h m t (PL p l r)) wE = xWhile T05 (n + 19) fE.scope (E1 w tx o h m t (PL p l r)) (testOf wE) (loopB wE) := by
  rcases hr with rfl | ⟨b, rfl⟩ <;> kernel_rfl
theorem en_t {n : Nat} {w tx o h t p l : PV} {q : Wd} {m : Mode} {r : Vars} (hr : R1o (.str q) r) : xT T05 (n + 20) fE.scope (E1 w tx o h m t (PL p l r)) (testOf wE) = andT (cCmpT .NotEq (kc (.str q)) (kc (.str []))) (some true) := by
  rcases hr with rfl | ⟨b, rfl⟩ <;> kernel_rfl
theorem en_i {n : Nat} {w tx o h t p l : PV} {q : Wd} {m : Mode} {r : Vars} (hr : R1o (.str q) r) : xS T05 (n + 20) fE.scope (E1 w tx o h m t (PL p l r)) iE = (cCmpT .In (kc (.str q)) (kc w)).bind fun c => bif c then xSs T05 (n + 19) fE.scope (E1 w tx o h m t (PL p l r)) (thenOf iE) else some (.next (E1 w tx o h m t (PL p l r))) := by
  rcases hr with rfl | ⟨b, rfl⟩ <;> kernel_rfl
theorem en_r2 {n : Nat} {w tx o h t p l a : PV} {m : Mode} {r : Vars} (hr : R1o a r) : xS T05 (n + 20) fE.scope (E1 w tx o h m t (PL p l r)) tE = xFor T05 (n + 19) fE.scope (E1 w tx o h m t (PL p l r)) (tgtE tE) (loopB tE) [.int 0, .int 1] := by
  rcases hr with rfl | ⟨b, rfl⟩ <;> kernel_rfl
theorem en_tb {n : Nat} {w tx o h t p l a x : PV} {m : Mode} {r : Vars} (hr : R1o a r) : bindT (n + 9) fE.scope (tgtE tE) x (E1 w tx o h m t (PL p l r)) = some (E1 w tx o h m t (PL p l [("one", .P, a), ("turn", .P, x)])) := by
  rcases hr with rfl | ⟨b, rfl⟩ <;> kernel_rfl
theorem en_a {n : Nat} {w tx o h t p l x : PV} {q : Wd} {m : Mode} : xS T05 (n + 20) fE.scope (E1 w tx o h m t (PL p l [("one", .P, .str q), ("turn", .P, x)])) (nthS (loopB tE) 0) = (((two0 (nm m t) (pair1 (key q) (.int 1))).bind fun as => (xCall T05 (n + 17) fA (as.map fun a => slotOf a.1 a.2)).bind fun v => some (true, v)).bind pubM).bind fun s => some (.next (("words", .P, w) :: ("text", .P, tx) :: ("table", s) :: ("here", .P, h) :: ("order", .P, o) :: PL p l [("one", .P, .str q), ("turn", .P, x)])) := by kernel_rfl
theorem en_k {n : Nat} {w tx o h t p l a : PV} {m : Mode} {r : Vars} (hr : R1o a r) : ∃ f : Mode × PV → Vars, (∀ v, R1o v (f (.P, v))) ∧ xS T05 (n + 20) fE.scope (E1 w tx o h m t (PL p l r)) (nthS (loopB wE) 1) = ((cC2 (n + 17) fK (kc o) (kc a)).bind pubM).bind fun s => some (.next (E1 w tx o h m t (PL p l (f s)))) := by
  rcases hr with rfl | ⟨b, rfl⟩
  · exact ⟨fun s => [("one", s)], fun _ => .inl rfl, by kernel_rfl⟩
  · exact ⟨fun s => [("one", s), ("turn", b)], fun _ => .inr ⟨_, rfl⟩, by kernel_rfl⟩
theorem en_r {n : Nat} {w tx o h : PV} {D : Tbl} {m : Mode} {r : Vars} (hm : Tm m) (hr : r = [] ∨ ∃ a b q, R0 q ∧ r = PL a b q) : xS T05 (n + 20) fE.scope (E1 w tx o h m (dic D) r) (nthS fE.body 2) = some (.ret (dic D)) := by
  rcases hm with rfl | rfl <;> rcases hr with rfl | ⟨a, b, q, rfl | ⟨c, rfl⟩ | ⟨c, d, rfl⟩, rfl⟩ <;> kernel_rfl
end Mine
namespace Mine
open PySem
noncomputable def evs (wl l : List Wd) : List Wd := l.flatMap fun p => if p ∈ wl then [p, p] else []
noncomputable def evR (o wl : List Wd) : Wd → Wd → List Wd
  | _, [] => []
  | d, c :: t => evs wl (nes o (d ++ [c])) ++ evR o wl (d ++ [c]) t
theorem evs_cons (wl : List Wd) (p : Wd) (l : List Wd) : evs wl (p :: l) = (if p ∈ wl then [p, p] else []) ++ evs wl l := List.flatMap_cons
theorem en_add {n : Nat} {w tx o h p l x : PV} {q : Wd} {m : Mode} {D : Tbl} (hm : Tm m) (ha : Apart D) (hD : D.length ≤ 200) : xS T05 (n + 300) fE.scope (E1 w tx o h m (dic D) (PL p l [("one", .P, .str q), ("turn", .P, x)])) (nthS (loopB tE) 0) = some (.next (E1 w tx o h .P (dic (bump q 1 D)) (PL p l [("one", .P, .str q), ("turn", .P, x)]))) := by
  obtain ⟨f, m1, e1, e2, e3⟩ := nm_dic (D := D) hm
  refine (en_a (n := n + 280)).trans ?_
  rw [two_go e1 (pair_key q)]
  have c : xCall T05 (n + 280 + 17) fA [(m1, dic D), (.P, dic [(q, 1)])] = some (dic (bump q 1 D)) := by
    rw [show n + 280 + 17 = n + (266 - D.length) + 31 + D.length from (a_fuel (m := 297) (Nat.le_trans hD (by decide)) rfl).symm]
    exact add_call e3 ha (Nat.le_trans hD (by decide))
  have g : (some [(f, dic D), (true, dic [(q, 1)])]).bind (fun as => (xCall T05 (n + 280 + 17) fA (as.map fun a => slotOf a.1 a.2)).bind fun v => some (true, v)) = some (true, dic (bump q 1 D)) := by
    show (xCall T05 (n + 280 + 17) fA [slotOf f (dic D), (.P, dic [(q, 1)])]).bind _ = _
    rw [e2, c]; rfl
  rw [g]
  kernel_rfl
theorem en_turns {n : Nat} {w tx o h p l : PV} {q : Wd} {m : Mode} {D : Tbl} {r : Vars} (hr : R1o (.str q) r) (hm : Tm m) (ha : Apart D) (hD : D.length ≤ 199) :
    xFor T05 (n + 304) fE.scope (E1 w tx o h m (dic D) (PL p l r)) (tgtE tE) (loopB tE) [.int 0, .int 1] = some (.next (E1 w tx o h .P (dic (bumps D [q, q])) (PL p l [("one", .P, .str q), ("turn", .P, .int 1)]))) := by
  have hD2 : (bump q 1 D).length ≤ 200 := Nat.le_trans setD_len (Nat.succ_le_succ hD)
  refine for_go (en_tb (n := n + 294) hr) (ss_step (n := n + 302) bE5 (en_add (n := n + 2) hm ha (Nat.le_succ_of_le hD)) (ss_nil rfl)) ?_
  exact for_go (en_tb (n := n + 293) (.inr ⟨_, rfl⟩)) (ss_step (n := n + 301) bE5 (en_add (n := n + 1) (.inl rfl) (setD_apart ha) hD2) (ss_nil rfl)) rfl
end Mine
namespace Mine
open PySem
theorem or_mem (y q : Wd) (r : List Wd) : ((y == q) || decide (q ∈ r)) = decide (q ∈ y :: r) := by
  by_cases h : y = q
  · rw [beq_iff_eq.mpr h, Bool.true_or, decide_eq_true (h ▸ List.mem_cons_self ..)]
  · rw [beq_eq_false_iff_ne.mpr h, Bool.false_or]
    exact decide_eq_decide.mpr ⟨.tail _, fun m => (List.mem_cons.mp m).resolve_left (Ne.symm h)⟩
theorem in_ws (q : Wd) : ∀ wl : List Wd, isInL (.str q) (ws wl) = some (decide (q ∈ wl))
  | [] => rfl
  | y :: r => by
    have e : PV.eq (.str y) (.str q) = some (y == q) := by kernel_rfl
    show (match PV.eq (.str y) (.str q), isInL (.str q) (ws r) with
      | some a, some b => some (a || b)
      | _, _ => Option.none) = _
    rw [e, in_ws q r]
    exact congrArg some (or_mem y q r)
theorem evs_len : ∀ (wl l : List Wd), (evs wl l).length ≤ 2 * l.length
  | _, [] => Nat.le_refl _
  | wl, p :: l => by
    have := evs_len wl l
    rw [evs_cons, List.length_append, List.length_cons]
    by_cases h : p ∈ wl
    · rw [if_pos h]; show 2 + _ ≤ _; (first | with_reducible exact Nat.le_trans (by assumption) (by decide) | lia | omega)
    · rw [if_neg h]; show 0 + _ ≤ _; (first | with_reducible exact Nat.le_trans (by assumption) (by decide) | lia | omega)
theorem en_if {n : Nat} {wl : List Wd} {tx o h p l : PV} {q : Wd} {m : Mode} {D : Tbl} {r : Vars} (hr : R1o (.str q) r) (hm : Tm m) (ha : Apart D) (hD : D.length ≤ 199) :
    ∃ m' r', Tm m' ∧ R1o (.str q) r' ∧ xS T05 (n + 310) fE.scope (E1 (.list (ws wl)) tx o h m (dic D) (PL p l r)) iE = some (.next (E1 (.list (ws wl)) tx o h m' (dic (bumps D (if q ∈ wl then [q, q] else []))) (PL p l r'))) := by
  have e : cCmpT .In (kc (.str q)) (kc (.list (ws wl))) = some (decide (q ∈ wl)) := cCmpT_go rfl rfl (in_ws q wl)
  by_cases hq : q ∈ wl
  · rw [if_pos hq]
    rw [decide_eq_true hq] at e
    exact ⟨.P, _, .inl rfl, .inr ⟨_, rfl⟩, (en_i (n := n + 290) hr).trans (ifB_t e (ss_step (n := n + 308) bE4 ((en_r2 (n := n + 288) hr).trans (en_turns (n := n + 3) hr hm ha hD)) (ss_nil rfl)))⟩
  · rw [if_neg hq]
    rw [decide_eq_false hq] at e
    exact ⟨m, r, hm, hr, (en_i (n := n + 290) hr).trans (ifB_f e rfl)⟩
theorem en_back {n : Nat} {w tx h p l t : PV} {o : List Wd} (U : Up5 o) (B : Beg5 o) (hl : o.length ≤ 20) {c : Nat} {q : Wd} (hq : (c :: q).length ≤ 20) {m : Mode} {r : Vars} (hr : R1o (.str (c :: q)) r) :
    ∃ r', R1o (.str (lsx o q)) r' ∧ xS T05 (n + 310) fE.scope (E1 w tx (.list (ws o)) h m t (PL p l r)) (nthS (loopB wE) 1) = some (.next (E1 w tx (.list (ws o)) h m t (PL p l r'))) := by
  obtain ⟨f, hf, e⟩ := en_k (n := n + 290) (w := w) (tx := tx) (o := .list (ws o)) (h := h) (t := t) (p := p) (l := l) (m := m) hr
  refine ⟨_, hf (.str (lsx o q)), e.trans ?_⟩
  rw [show n + 290 + 17 = n + 193 + 114 from rfl, back_C U hl hq, bk_cons B]
  rfl
theorem en_while {w : List Wd} {tx h p l : PV} {o : List Wd} (U : Up5 o) (B : Beg5 o) (hl : o.length ≤ 20) : ∀ (f n : Nat) (q : Wd) (m : Mode) (D : Tbl) (r : Vars), q.length ≤ f → f ≤ 20 → q ∈ o → Tm m → Apart D → D.length + 2 * f ≤ 199 → R1o (.str q) r →
    ∃ m' r', Tm m' ∧ R1o (.str []) r' ∧ xWhile T05 (n + 312 + f + 1) fE.scope (E1 (.list (ws w)) tx (.list (ws o)) h m (dic D) (PL p l r)) (testOf wE) (loopB wE) = some (.next (E1 (.list (ws w)) tx (.list (ws o)) h m' (dic (bumps D (evs w (nes o q)))) (PL p l r'))) := by
  intro f
  induction f with
  | zero =>
    intro n q m D r hq _ _ hm _ _ hr
    obtain rfl := List.length_eq_zero_iff.mp (Nat.le_zero.mp hq)
    exact ⟨m, r, hm, hr, while_end ((en_t (n := n + 292) hr).trans (andT_f (cCmpT_go rfl rfl (ne_str [] []))))⟩
  | succ f ih =>
    intro n q m D r hq hf ho hm ha hD hr
    have e0 : n + 312 + (f + 1) = n + f + 313 := by (first | with_reducible exact Nat.le_trans (by assumption) (by decide) | lia | omega)
    cases q with
    | nil =>
      refine ⟨m, r, hm, hr, while_end ?_⟩
      rw [e0]
      exact (en_t (n := n + f + 293) hr).trans (andT_f (cCmpT_go rfl rfl (ne_str [] [])))
    | cons c t =>
      obtain ⟨m1, r1, hm1, hr1, e1⟩ := en_if (n := n + f + 2) (wl := w) (tx := tx) (o := .list (ws o)) (h := h) (p := p) (l := l) hr hm ha (by (first | with_reducible exact Nat.le_trans (by assumption) (by decide) | lia | omega))
      obtain ⟨r2, hr2, e2⟩ := en_back (n := n + f + 1) (w := .list (ws w)) (tx := tx) (h := h) (p := p) (l := l) (t := dic (bumps D (if (c :: t) ∈ w then [c :: t, c :: t] else []))) U B hl (Nat.le_trans hq hf) (m := m1) hr1
      have hlen : (lsx o t).length ≤ f := Nat.le_trans (lsx_len o t) (Nat.le_of_succ_le_succ hq)
      have hb : (bumps D (if (c :: t) ∈ w then [c :: t, c :: t] else [])).length ≤ D.length + 2 := by
        refine Nat.le_trans bumps_len (Nat.add_le_add_left ?_ _)
        by_cases h : (c :: t) ∈ w
        · rw [if_pos h]; exact Nat.le_refl _
        · rw [if_neg h]; exact Nat.zero_le _
      obtain ⟨m3, r3, hm3, hr3, e3⟩ := ih n (lsx o t) m1 (bumps D (if (c :: t) ∈ w then [c :: t, c :: t] else [])) r2 hlen (Nat.le_of_succ_le hf) (lsx_mem B t) hm1 (bumps_apart ha) (by (first | with_reducible exact Nat.le_trans (by assumption) (by decide) | lia | omega)) hr2
      refine ⟨m3, r3, hm3, hr3, ?_⟩
      rw [nes_cons ho, evs_cons, bumps_app]
      refine while_go ?_ ?_ e3
      · rw [e0]
        exact (en_t (n := n + f + 293) hr).trans (andT_t (cCmpT_go rfl rfl (ne_str _ _)))
      · rw [e0]
        exact ss_step (n := n + f + 312) bE3 e1 (ss_step (n := n + f + 311) rfl e2 (ss_nil rfl))
end Mine
namespace Mine
open PySem
theorem gt_int (a b : Int) : evalCmp .Gt (.int a) (.int b) = some (decide (b < a)) := rfl
theorem nes_len (o : List Wd) : ∀ t, (nes o t).length ≤ t.length
  | [] => Nat.le_refl _
  | c :: t => by
    show (if c :: t ∈ o then (c :: t) :: nes o t else nes o t).length ≤ _
    by_cases h : c :: t ∈ o
    · rw [if_pos h]; exact Nat.succ_le_succ (nes_len o t)
    · rw [if_neg h]; exact Nat.le_succ_of_le (nes_len o t)
theorem en_body {n i c : Nat} {w : List Wd} {tx : PV} {o : List Wd} (U : Up5 o) (B : Beg5 o) (hl : o.length ≤ 20) {q : Wd} (hq : q.length ≤ 7) (hi : q.length ≤ i) {m : Mode} {D : Tbl} {r : Vars} (hr : R0 r) (hm : Tm m) (ha : Apart D) (hD : D.length ≤ 180) :
    ∃ m' r', Tm m' ∧ R0 r' ∧ xSs T05 (n + 340) fE.scope (E1 (.list (ws w)) tx (.list (ws o)) (.str q) m (dic D) (PL (.int i) (.str [c]) r)) (loopB lE) = some (.next (E1 (.list (ws w)) tx (.list (ws o)) (.str (lsx o (q ++ [c]))) m' (dic (bumps D (evs w (nes o (q ++ [c]))))) (PL (.int i) (.str [c]) r'))) := by
  have hlen : (lsx o (q ++ [c])).length ≤ q.length + 1 := Nat.le_trans (lsx_len o _) (Nat.le_of_eq (by rw [List.length_append]; rfl))
  obtain ⟨r1, hr1, e3⟩ := en_3 (n := n + 317) (w := .list (ws w)) (tx := tx) (o := .list (ws o)) (h := .str (lsx o (q ++ [c]))) (t := dic D) (p := .int i) (l := .str [c]) (m := m) hr
  obtain ⟨m', r', hm', hr', e4⟩ := en_while (w := w) (tx := tx) (h := .str (lsx o (q ++ [c]))) (p := .int i) (l := .str [c]) U B hl 8 (n + 14) (lsx o (q ++ [c])) m D r1 (Nat.le_trans hlen (Nat.succ_le_succ hq)) (by decide) (lsx_mem B _) hm ha (by (first | with_reducible exact Nat.le_trans (by assumption) (by decide) | lia | omega)) hr1
  refine ⟨m', r', hm', hr'.elim (fun e => .inr (.inl ⟨_, e⟩)) (fun ⟨b, e⟩ => .inr (.inr ⟨_, b, e⟩)), ?_⟩
  rw [nes_lsx (q ++ [c])]
  refine ss_step (n := n + 339) bE1 (v' := E1 (.list (ws w)) tx (.list (ws o)) (.str (lsx o (q ++ [c]))) m (dic D) (PL (.int i) (.str [c]) r)) ((en_1 (n := n + 319) hr).trans ?_) (ss_step (n := n + 338) rfl (v' := E1 (.list (ws w)) tx (.list (ws o)) (.str (lsx o (q ++ [c]))) m (dic D) (PL (.int i) (.str [c]) r)) ((en_2 (n := n + 318) hr).trans (ifB_f ?_ rfl)) (ss_step (n := n + 337) rfl e3 (ss_step (n := n + 336) rfl ((en_w (n := n + 316) hr1).trans e4) (ss_nil rfl))))
  · rw [show n + 319 + 17 = n + 151 + 185 from rfl, goes_C U B hl (Nat.le_trans hq (by decide))]
    rfl
  · refine orT_f (cCmpT_go (lenE_str (Nat.le_trans hlen (by (first | with_reducible exact Nat.le_trans (by assumption) (by decide) | lia | omega)))) (cBin_go rfl rfl (add_int _ _)) ((gt_int _ _).trans (congrArg some (decide_eq_false ?_))))
    (first | with_reducible exact Nat.le_trans (by assumption) (by decide) | lia | omega)
theorem en_loop {w : List Wd} {tx : PV} {o : List Wd} (U : Up5 o) (B : Beg5 o) (hl : o.length ≤ 20) : ∀ (t d : Wd) (n : Nat) (m : Mode) (D : Tbl) (r : Vars), d.length + t.length ≤ 8 → Tm m → Apart D → D.length + 16 * t.length ≤ 150 → (r = [] ∨ ∃ a b q, R0 q ∧ r = PL a b q) →
    ∃ h m' r', Tm m' ∧ (r' = [] ∨ ∃ a b q, R0 q ∧ r' = PL a b q) ∧ xFor T05 (n + 340 + t.length + 1) fE.scope (E1 (.list (ws w)) tx (.list (ws o)) (.str (lsx o d)) m (dic D) r) (tgtE lE) (loopB lE) (enumFrom d.length (t.map fun c => .str [c])) = some (.next (E1 (.list (ws w)) tx (.list (ws o)) h m' (dic (bumps D (evR o w d t))) r'))
  | [], d, n, m, D, r, _, hm, _, _, hr => ⟨_, m, r, hm, hr, rfl⟩
  | c :: t, d, n, m, D, r, h8, hm, ha, hD, hr => by
    rw [List.length_cons] at h8 hD
    have hr' : ∃ a b, r = [] ∨ ∃ q, R0 q ∧ r = PL a b q := hr.elim (fun e => ⟨.none, .none, .inl e⟩) fun ⟨a, b, q, x, y⟩ => ⟨a, b, .inr ⟨q, x, y⟩⟩
    obtain ⟨a, b, hr'⟩ := hr'
    obtain ⟨q, hq, e1⟩ := en_b (n := n + t.length + 332) (w := .list (ws w)) (tx := tx) (o := .list (ws o)) (h := .str (lsx o d)) (t := dic D) (p := .int d.length) (l := .str [c]) (m := m) hr'
    have hld : (lsx o d).length ≤ d.length := lsx_len o d
    obtain ⟨m1, r1, hm1, hr1, e2⟩ := en_body (n := n + t.length + 1) (i := d.length) (c := c) (w := w) (tx := tx) U B hl (q := lsx o d) (by (first | with_reducible exact Nat.le_trans (by assumption) (by decide) | lia | omega)) hld hq hm ha (by (first | with_reducible exact Nat.le_trans (by assumption) (by decide) | lia | omega))
    rw [← lsx_step B] at e2
    have en : nes o (lsx o d ++ [c]) = nes o (d ++ [c]) := by rw [nes_lsx, ← lsx_step B, ← nes_lsx]
    rw [en] at e2
    have hb : (bumps D (evs w (nes o (d ++ [c])))).length ≤ D.length + 16 := by
      have h1 := evs_len w (nes o (d ++ [c]))
      have h2 := nes_len o (d ++ [c])
      rw [List.length_append] at h2
      have h3 : (bumps D (evs w (nes o (d ++ [c])))).length ≤ _ := bumps_len
      have h4 : [c].length = 1 := rfl
      (first | with_reducible exact Nat.le_trans (by assumption) (by decide) | lia | omega)
    obtain ⟨h, m3, r3, hm3, hr3, e3⟩ := en_loop U B hl t (d ++ [c]) n m1 (bumps D (evs w (nes o (d ++ [c])))) (PL (.int d.length) (.str [c]) r1) (by rw [List.length_append]; show d.length + 1 + _ ≤ _; (first | with_reducible exact Nat.le_trans (by assumption) (by decide) | lia | omega)) hm1 (bumps_apart ha) (by (first | with_reducible exact Nat.le_trans (by assumption) (by decide) | lia | omega)) (.inr ⟨_, _, _, hr1, rfl⟩)
    refine ⟨h, m3, r3, hm3, hr3, ?_⟩
    rw [show evR o w d (c :: t) = evs w (nes o (d ++ [c])) ++ evR o w (d ++ [c]) t from rfl, bumps_app]
    rw [List.length_append] at e3
    rw [show n + t.length + 332 + 9 = n + 340 + t.length + 1 by (first | with_reducible exact Nat.le_trans (by assumption) (by decide) | lia | omega)] at e1
    rw [show n + t.length + 1 + 340 = n + 340 + t.length + 1 by (first | with_reducible exact Nat.le_trans (by assumption) (by decide) | lia | omega)] at e2
    exact for_go e1 e2 e3
noncomputable def lB : Stmt := nthS fBg.body 1
noncomputable def lB2 : Stmt := nthS (loopB lB) 0
noncomputable def iB : Stmt := nthS (loopB lB2) 1
noncomputable def BgV (w : PV) (o : List PV) (r : Vars) : Vars := ("words", .P, w) :: ("order", .O, .list o) :: r
noncomputable def W1v (x : PV) (r : Vars) : Prop := r = [(("word" : Str), (Mode.P, x))] ∨ (∃ a : Mode × PV, r = [(("word" : Str), (Mode.P, x)), (("k" : Str), a)]) ∨ ∃ a b : Mode × PV, r = [(("word" : Str), (Mode.P, x)), (("k" : Str), a), (("place" : Str), b)]
noncomputable def K1v (x k : PV) (r : Vars) : Prop := r = [(("word" : Str), (Mode.P, x)), (("k" : Str), (Mode.P, k))] ∨ ∃ b : Mode × PV, r = [(("word" : Str), (Mode.P, x)), (("k" : Str), (Mode.P, k)), (("place" : Str), b)]
noncomputable def cTo (q k : PV) : Option (Bool × PV) := cutP (true, q) none (some k)
theorem bBg : fBg.body = nthS fBg.body 0 :: lB :: nthS fBg.body 2 :: [] := by kernel_rfl
theorem bBg1 : loopB lB = lB2 :: [] := by kernel_rfl
theorem bBg2 : loopB lB2 = nthS (loopB lB2) 0 :: iB :: [] := by kernel_rfl
theorem bBg3 : thenOf iB = nthS (thenOf iB) 0 :: [] := by kernel_rfl
theorem bg_0 {n : Nat} {w : PV} : xS T05 (n + 20) fBg.scope [("words", .P, w)] (nthS fBg.body 0) = some (.next (BgV w [] [])) := by kernel_rfl
theorem bg_f {n : Nat} {w : PV} : xS T05 (n + 20) fBg.scope (BgV w [] []) lB = ((revP (true, w) (.int (-1))).bind itemsS).bind fun items => xFor T05 (n + 19) fBg.scope (BgV w [] []) (tgtE lB) (loopB lB) items := by kernel_rfl
theorem bg_b {n : Nat} {w x y : PV} {o : List PV} {r : Vars} (hr : r = [] ∨ W1v y r) : ∃ r', W1v x r' ∧ bindT (n + 9) fBg.scope (tgtE lB) x (BgV w o r) = some (BgV w o r') := by
  rcases hr with rfl | rfl | ⟨a, rfl⟩ | ⟨a, b, rfl⟩
  · exact ⟨_, .inl rfl, by kernel_rfl⟩
  · exact ⟨_, .inl rfl, by kernel_rfl⟩
  · exact ⟨_, .inr (.inl ⟨a, rfl⟩), by kernel_rfl⟩
  · exact ⟨_, .inr (.inr ⟨a, b, rfl⟩), by kernel_rfl⟩
noncomputable def dnTo (x : PV) : Option (List PV) := ((lenE x).bind fun v => some (v :: [(true, .int (-1)), (true, .int (-1))])).bind fun as => evalRange (as.map (·.2))
theorem bg_g {n : Nat} {w x : PV} {o : List PV} {r : Vars} (hr : W1v x r) : xS T05 (n + 20) fBg.scope (BgV w o r) lB2 = (dnTo x).bind fun items => xFor T05 (n + 19) fBg.scope (BgV w o r) (tgtE lB2) (loopB lB2) items := by
  rcases hr with rfl | ⟨a, rfl⟩ | ⟨a, b, rfl⟩ <;> kernel_rfl
theorem bg_k {n : Nat} {w x k : PV} {o : List PV} {r : Vars} (hr : W1v x r) : ∃ r', K1v x k r' ∧ bindT (n + 9) fBg.scope (tgtE lB2) k (BgV w o r) = some (BgV w o r') := by
  rcases hr with rfl | ⟨a, rfl⟩ | ⟨a, b, rfl⟩
  · exact ⟨_, .inl rfl, by kernel_rfl⟩
  · exact ⟨_, .inl rfl, by kernel_rfl⟩
  · exact ⟨_, .inr ⟨b, rfl⟩, by kernel_rfl⟩
noncomputable def KPv (x k p : PV) : Vars := [("word", .P, x), ("k", .P, k), ("place", .P, p)]
theorem bg_1 {n : Nat} {w x k : PV} {o : List PV} {r : Vars} (hr : K1v x k r) : xS T05 (n + 20) fBg.scope (BgV w o r) (nthS (loopB lB2) 0) = ((cC2 (n + 17) fB (nm .O (.list o)) (cTo x k)).bind pubM).bind fun s => some (.next (BgV w o [("word", .P, x), ("k", .P, k), ("place", s)])) := by
  rcases hr with rfl | ⟨b, rfl⟩ <;> kernel_rfl
theorem bg_2 {n : Nat} {w x k p : PV} {o : List PV} : xS T05 (n + 20) fBg.scope (BgV w o (KPv x k p)) iB = (orT (cCmpT .Eq (kc p) (lenE (.list o))) (orT (cCmpT .NotEq (cItem (nm .O (.list o)) (kc p)) (cTo x k)) (some false))).bind fun c => bif c then xSs T05 (n + 19) fBg.scope (BgV w o (KPv x k p)) (thenOf iB) else some (.next (BgV w o (KPv x k p))) := by kernel_rfl
theorem bg_3 {n : Nat} {w x k p : PV} {o : List PV} : xS T05 (n + 20) fBg.scope (BgV w o (KPv x k p)) (nthS (thenOf iB) 0) = ((cTo x k).bind fun v => some [v]).bind fun as => zMut (zRec T05 (n + 19)) (BgV w o (KPv x k p)) fI "order" as (.list o) := by kernel_rfl
theorem bg_r {n : Nat} {w y : PV} {o : List PV} {r : Vars} (hr : r = [] ∨ W1v y r) : xS T05 (n + 20) fBg.scope (BgV w o r) (nthS fBg.body 2) = some (.ret (.list o)) := by
  rcases hr with rfl | rfl | ⟨a, rfl⟩ | ⟨a, b, rfl⟩ <;> kernel_rfl
end Mine
namespace Mine
open PySem
theorem orT_t {o k : Option Bool} (h : o = some true) : orT o k = some true := by rw [h]; rfl
theorem eq_nat (i j : Nat) : evalCmp .Eq (.int i) (.int j) = some (decide (i = j)) := by
  have e : evalCmp .Eq (.int i) (.int j) = some ((i : Int) == (j : Int)) := by kernel_rfl
  rw [e, Bool.eq_iff_iff.mpr (show (((i : Int) == (j : Int)) = true) ↔ (decide (i = j) = true) by rw [beq_iff_eq, decide_eq_true_iff, Int.ofNat_inj])]
theorem cTo_go {q : Wd} {k : Nat} (hk : k ≤ 1000) (hq : q.length ≤ 1000) : cTo (.str q) (.int k) = some (true, .str (q.take k)) := by
  have := cutP_go (a := (true, .str q)) bound_none (bound_nat (i := k) (Nat.le_trans hk (by decide))) (cut_str (lo := none) (hi := some (k : Int)) (Nat.le_trans hq (by decide)))
  rw [cut_to] at this
  exact this
theorem bg_test {o : List Wd} {q : Wd} {j : Nat} {e : Option (Bool × PV)} (U : Up5 o) (P : At5 o q j) (hl : o.length ≤ 20) (he : e = some (true, .str q)) :
    orT (cCmpT .Eq (kc (.int j)) (lenE (.list (ws o)))) (orT (cCmpT .NotEq (cItem (nm .O (.list (ws o))) (kc (.int j))) e) (some false)) = some (!decide (q ∈ o)) := by
  have e1 : cCmpT .Eq (kc (.int j)) (lenE (.list (ws o))) = some (decide (j = o.length)) := cCmpT_go rfl (lenE_ws hl) (eq_nat _ _)
  by_cases h : j = o.length
  · have : q ∉ o := fun hq => by
      have := (List.getElem?_eq_some_iff.mp ((P.mem U).mp hq)).1
      rw [h] at this; exact absurd this (Nat.lt_irrefl _)
    rw [orT_t (e1.trans (congrArg some (decide_eq_true h))), decide_eq_false this]; rfl
  · have hj : j < o.length := Nat.lt_of_le_of_ne P.le h
    have hk : o[j]? = some o[j] := List.getElem?_eq_getElem hj
    have hy : (ws o)[j]? = some (.str o[j]) := by unfold ws; rw [List.getElem?_map, hk]; rfl
    have e2 : cCmpT .NotEq (cItem (nm .O (.list (ws o))) (kc (.int j))) e = some (!decide (q ∈ o)) := by
      refine cCmpT_go (cItem_go (nm_eq _ _) rfl (sub_list hy (by rw [ws_len]; exact Nat.le_trans hl (by decide)))) he ((ne_str _ _).trans ?_)
      have : (o[j] == q) = decide (q ∈ o) := by
        rw [Bool.eq_iff_iff, beq_iff_eq, decide_eq_true_iff, P.mem U, hk, Option.some.injEq]
      rw [this]
    rw [orT_f (e1.trans (congrArg some (decide_eq_false h)))]
    cases hd : (!decide (q ∈ o)) with
    | true => exact orT_t (e2.trans (congrArg some hd))
    | false => exact orT_f (e2.trans (congrArg some hd))
theorem bg_body {n k : Nat} {w : PV} {x : Wd} {o : List Wd} {r : Vars} (U : Up5 o) (hl : o.length ≤ 20) (hk : k ≤ 1000) (hx : x.length ≤ 1000) (hr : K1v (.str x) (.int k) r) :
    ∃ o' p, Up5 o' ∧ (∀ y, y ∈ o' ↔ y = x.take k ∨ y ∈ o) ∧ o'.length ≤ o.length + 1 ∧ xSs T05 (n + 90) fBg.scope (BgV w (ws o) r) (loopB lB2) = some (.next (BgV w (ws o') (KPv (.str x) (.int k) p))) := by
  obtain ⟨j, P⟩ := U.at5 (x.take k)
  have e1 : xS T05 (n + 89) fBg.scope (BgV w (ws o) r) (nthS (loopB lB2) 0) = some (.next (BgV w (ws o) (KPv (.str x) (.int k) (.int j)))) := by
    refine (bg_1 (n := n + 69) hr).trans ?_
    rw [cTo_go hk hx]
    show (((xCall T05 (n + 26 + 60) fB [(.B, .list (ws o)), (.P, .str (x.take k))]).bind (fun v => some (true, v))).bind pubM).bind _ = _
    rw [bis5 P hl]; rfl
  have et := bg_test U P hl (cTo_go hk hx)
  by_cases hm : x.take k ∈ o
  · rw [decide_eq_true hm] at et
    exact ⟨o, .int j, U, fun y => ⟨.inr, fun h => h.elim (fun e => e ▸ hm) id⟩, Nat.le_succ _, ss_step (n := n + 89) bBg2 e1 (ss_step (n := n + 88) rfl ((bg_2 (n := n + 68)).trans (ifB_f et rfl)) (ss_nil rfl))⟩
  · rw [decide_eq_false hm] at et
    refine ⟨ins5 o j (x.take k), .int j, P.ins U hm, fun y => ins5_mem, ?_, ss_step (n := n + 89) bBg2 e1 (ss_step (n := n + 88) rfl ((bg_2 (n := n + 68)).trans (ifB_t et (ss_step (n := n + 86) bBg3 ?_ (ss_nil rfl)))) (ss_nil rfl))⟩
    · unfold ins5
      rw [List.length_append, List.length_cons, List.length_take, List.length_drop]
      have := P.le
      (first | with_reducible exact Nat.le_trans (by assumption) (by decide) | lia | omega)
    · refine (bg_3 (n := n + 66)).trans ?_
      rw [cTo_go hk hx]
      show zMut (zRec T05 (n + 85)) (BgV w (ws o) (KPv (.str x) (.int k) (.int j))) fI "order" [(true, .str (x.take k))] (.list (ws o)) = _
      rw [show n + 85 = n + (45 - (ws o).length) + 40 + (ws o).length from (a_fuel (m := 85) (by rw [ws_len]; exact Nat.le_trans hl (by decide)) rfl).symm, ins_mut P.place rfl (by rw [ws_len]; exact Nat.le_trans hl (by decide)), ins5_ws]
      kernel_rfl
noncomputable def dns : Nat → List PV
  | 0 => [.int (0 : Nat)]
  | k + 1 => .int (k + 1 : Nat) :: dns k
theorem dns_eq : ∀ k : Nat, (List.range (k + 1)).map (fun (i : Nat) => PV.int ((k : Int) - i)) = dns k
  | 0 => rfl
  | k + 1 => by
    rw [List.range_succ_eq_map, List.map_cons, List.map_map]
    show PV.int (((k + 1 : Nat) : Int) - ((0 : Nat) : Int)) :: _ = .int (k + 1 : Nat) :: dns k
    rw [← dns_eq k]
    refine congr (congrArg _ (congrArg PV.int (Int.sub_zero _))) (List.map_congr_left fun i _ => congrArg PV.int ?_)
    show ((k + 1 : Nat) : Int) - ((i + 1 : Nat) : Int) = (k : Int) - i
    (first | with_reducible exact Nat.le_trans (by assumption) (by decide) | lia | omega)
theorem range_dn (a b c : Int) : evalRange [.int a, .int b, .int c] = if (smallI a && smallI b && c == -1) = true then some (rangeDown a b) else none := by kernel_rfl
theorem range_of3 {u v x : PV} {as : List (Bool × PV)} {r : Option (List PV)} (h : as.map (·.2) = [u, v, x]) (h2 : evalRange [u, v, x] = r) : evalRange (as.map (·.2)) = r := by rw [h]; exact h2
theorem dn_len (l : Nat) : rangeDown l (-1) = dns l := by
  unfold rangeDown
  rw [show ((l : Int) - -1).toNat = l + 1 by (first | with_reducible exact Nat.le_trans (by assumption) (by decide) | lia | omega)]
  exact dns_eq l
theorem dnTo_go {x : Wd} (hx : x.length ≤ 1000) : dnTo (.str x) = some (dns x.length) := by
  refine bind_go (a := [(true, .int x.length), (true, .int (-1)), (true, .int (-1))]) (bind_go (lenE_str (Nat.le_trans hx (by decide))) rfl) (range_of3 rfl ?_)
  rw [range_dn, sm_nat (Nat.le_trans hx (by decide)), if_pos (by decide), dn_len]
theorem K1v.w1 {x k p : PV} : W1v x (KPv x k p) := .inr (.inr ⟨_, _, rfl⟩)
theorem bg_in {w : PV} {x : Wd} (hx : x.length ≤ 1000) : ∀ (k n : Nat) (o : List Wd) (r : Vars), k ≤ 1000 → Up5 o → o.length + k + 1 ≤ 20 → W1v (.str x) r →
    ∃ o' r', Up5 o' ∧ (∀ y, y ∈ o' ↔ y ∈ o ∨ ∃ j, j ≤ k ∧ y = x.take j) ∧ o'.length ≤ o.length + k + 1 ∧ W1v (.str x) r' ∧ xFor T05 (n + 97 + k) fBg.scope (BgV w (ws o) r) (tgtE lB2) (loopB lB2) (dns k) = some (.next (BgV w (ws o') r'))
  | 0, n, o, r, _, U, hl, hr => by
    obtain ⟨r1, hr1, e1⟩ := bg_k (n := n + 87) (w := w) (k := .int (0 : Nat)) (o := ws o) hr
    obtain ⟨o', p, U', hm, hlen, e2⟩ := bg_body (n := n + 6) (w := w) (k := 0) U (by (first | with_reducible exact Nat.le_trans (by assumption) (by decide) | lia | omega)) (Nat.zero_le _) hx hr1
    refine ⟨o', _, U', fun y => ?_, hlen, K1v.w1, for_go (m := n + 96) e1 e2 rfl⟩
    rw [hm]
    exact ⟨fun h => h.elim (fun e => .inr ⟨0, Nat.le_refl _, e⟩) .inl, fun h => h.elim .inr fun ⟨j, hj, e⟩ => .inl (Nat.le_zero.mp hj ▸ e)⟩
  | k + 1, n, o, r, hk, U, hl, hr => by
    obtain ⟨r1, hr1, e1⟩ := bg_k (n := n + k + 88) (w := w) (k := .int (k + 1 : Nat)) (o := ws o) hr
    obtain ⟨o1, p, U1, hm1, hlen1, e2⟩ := bg_body (n := n + k + 7) (w := w) (k := k + 1) U (by (first | with_reducible exact Nat.le_trans (by assumption) (by decide) | lia | omega)) hk hx hr1
    obtain ⟨o', r', U', hm, hlen, hr', e3⟩ := bg_in hx k n o1 _ (Nat.le_of_succ_le hk) U1 (by (first | with_reducible exact Nat.le_trans (by assumption) (by decide) | lia | omega)) (K1v.w1 (x := .str x) (k := .int (k + 1 : Nat)) (p := p))
    rw [show n + k + 88 + 9 = n + 97 + k by (first | with_reducible exact Nat.le_trans (by assumption) (by decide) | lia | omega)] at e1
    rw [show n + k + 7 + 90 = n + 97 + k by (first | with_reducible exact Nat.le_trans (by assumption) (by decide) | lia | omega)] at e2
    refine ⟨o', r', U', fun y => ?_, by (first | with_reducible exact Nat.le_trans (by assumption) (by decide) | lia | omega), hr', for_go e1 e2 e3⟩
    rw [hm, hm1]
    constructor
    · rintro ((e | h) | ⟨j, hj, e⟩)
      · exact .inr ⟨k + 1, Nat.le_refl _, e⟩
      · exact .inl h
      · exact .inr ⟨j, Nat.le_succ_of_le hj, e⟩
    · rintro (h | ⟨j, hj, e⟩)
      · exact .inl (.inr h)
      · rcases Nat.lt_or_eq_of_le hj with q | rfl
        · exact .inr ⟨j, Nat.le_of_lt_succ q, e⟩
        · exact .inl (.inl e)
end Mine
namespace Mine
open PySem
theorem pre_take {y x : Wd} : y <+: x ↔ ∃ j, j ≤ x.length ∧ y = x.take j :=
  ⟨fun h => ⟨y.length, h.length_le, List.prefix_iff_eq_take.mp h⟩, fun ⟨j, _, e⟩ => e ▸ List.take_prefix j x⟩
theorem bg_word {n : Nat} {w : PV} {x : Wd} {o : List Wd} {r : Vars} (hx : x.length ≤ 3) (U : Up5 o) (hl : o.length + 4 ≤ 20) (hr : W1v (.str x) r) :
    ∃ o' r', Up5 o' ∧ (∀ y, y ∈ o' ↔ y ∈ o ∨ y <+: x) ∧ o'.length ≤ o.length + 4 ∧ W1v (.str x) r' ∧ xSs T05 (n + 102) fBg.scope (BgV w (ws o) r) (loopB lB) = some (.next (BgV w (ws o') r')) := by
  have hx' : x.length ≤ 1000 := Nat.le_trans hx (by decide)
  obtain ⟨o', r', U', hm, hlen, hr', e⟩ := bg_in (w := w) hx' x.length (n + (3 - x.length)) o r hx' U (by (first | with_reducible exact Nat.le_trans (by assumption) (by decide) | lia | omega)) hr
  rw [show n + (3 - x.length) + 97 + x.length = n + 100 from a_fuel hx rfl] at e
  exact ⟨o', r', U', fun y => by rw [hm, pre_take], by (first | with_reducible exact Nat.le_trans (by assumption) (by decide) | lia | omega), hr', ss_step (n := n + 101) bBg1 ((bg_g (n := n + 81) hr).trans (bind_go (dnTo_go hx') e)) (ss_nil rfl)⟩
theorem bg_out {w : PV} : ∀ (L : List Wd) (n : Nat) (o : List Wd) (r : Vars), (∀ x ∈ L, x.length ≤ 3) → Up5 o → o.length + 4 * L.length ≤ 20 → (r = [] ∨ ∃ y, W1v y r) →
    ∃ o' r', Up5 o' ∧ (∀ y, y ∈ o' ↔ y ∈ o ∨ ∃ x ∈ L, y <+: x) ∧ o'.length ≤ o.length + 4 * L.length ∧ (r' = [] ∨ ∃ y, W1v y r') ∧ xFor T05 (n + 102 + L.length + 1) fBg.scope (BgV w (ws o) r) (tgtE lB) (loopB lB) (ws L) = some (.next (BgV w (ws o') r'))
  | [], n, o, r, _, U, _, hr => ⟨o, r, U, fun y => ⟨.inl, fun h => h.elim id fun ⟨x, hx, _⟩ => by cases hx⟩, Nat.le_refl _, hr, rfl⟩
  | x :: L, n, o, r, hx, U, hl, hr => by
    rw [List.length_cons] at hl
    obtain ⟨y0, hr⟩ : ∃ y, r = [] ∨ W1v y r := hr.elim (fun e => ⟨.none, .inl e⟩) fun ⟨y, h⟩ => ⟨y, .inr h⟩
    obtain ⟨r1, hr1, e1⟩ := bg_b (n := n + L.length + 94) (w := w) (x := .str x) (o := ws o) hr
    obtain ⟨o1, r2, U1, hm1, hl1, hr2, e2⟩ := bg_word (n := n + L.length + 1) (w := w) (hx x (.head _)) U (by (first | with_reducible exact Nat.le_trans (by assumption) (by decide) | lia | omega)) hr1
    obtain ⟨o', r', U', hm, hl', hr', e3⟩ := bg_out L n o1 r2 (fun y hy => hx y (.tail _ hy)) U1 (by (first | with_reducible exact Nat.le_trans (by assumption) (by decide) | lia | omega)) (.inr ⟨_, hr2⟩)
    rw [show n + L.length + 94 + 9 = n + 102 + L.length + 1 by (first | with_reducible exact Nat.le_trans (by assumption) (by decide) | lia | omega)] at e1
    rw [show n + L.length + 1 + 102 = n + 102 + L.length + 1 by (first | with_reducible exact Nat.le_trans (by assumption) (by decide) | lia | omega)] at e2
    refine ⟨o', r', U', fun y => ?_, by rw [List.length_cons]; (first | with_reducible exact Nat.le_trans (by assumption) (by decide) | lia | omega), hr', for_go e1 e2 e3⟩
    rw [hm, hm1]
    constructor
    · rintro ((h | h) | ⟨z, hz, h⟩)
      · exact .inl h
      · exact .inr ⟨x, .head _, h⟩
      · exact .inr ⟨z, .tail _ hz, h⟩
    · rintro (h | ⟨z, hz, h⟩)
      · exact .inl (.inl h)
      · rcases List.mem_cons.mp hz with rfl | hz
        · exact .inl (.inr h)
        · exact .inr ⟨z, hz, h⟩
structure Bgs (wl o : List Wd) : Prop where
  up : Up5 o
  mem : ∀ y, y ∈ o ↔ ∃ x ∈ wl, y <+: x
  len : o.length ≤ 20
theorem up5_ext : ∀ {a b : List Wd}, Up5 a → Up5 b → (∀ y, y ∈ a ↔ y ∈ b) → a = b
  | [], [], _, _, _ => rfl
  | [], y :: b, _, _, h => by have := (h y).mpr (.head _); cases this
  | x :: a, [], _, _, h => by have := (h x).mp (.head _); cases this
  | x :: a, y :: b, u, v, h => by
    have u' := List.pairwise_cons.mp u
    have v' := List.pairwise_cons.mp v
    have e : x = y := by
      rcases List.mem_cons.mp ((h x).mp (.head _)) with e | hx
      · exact e
      · rcases List.mem_cons.mp ((h y).mpr (.head _)) with e | hy
        · exact e.symm
        · have p := v'.1 x hx
          rw [nl_asymm (u'.1 y hy)] at p; cases p
    rw [← e] at v' h ⊢
    refine congrArg (x :: ·) (up5_ext u'.2 v'.2 fun z => ⟨fun hz => ?_, fun hz => ?_⟩)
    · rcases List.mem_cons.mp ((h z).mp (.tail _ hz)) with q | q
      · have p := u'.1 z hz; rw [q, nl_irr] at p; cases p
      · exact q
    · rcases List.mem_cons.mp ((h z).mpr (.tail _ hz)) with q | q
      · have p := v'.1 z hz; rw [q, nl_irr] at p; cases p
      · exact q
theorem bg_rev (l : List Wd) (h : l.length ≤ 20) : (revP (true, .list (ws l)) (.int (-1))).bind itemsS = some (ws l.reverse) := by
  have e : (revP (true, .list (ws l)) (.int (-1))).bind itemsS = ((if szOk (ws l).length = true then some (PV.list (ws l).reverse) else none).map fun r => (true || okItems (.list (ws l)), r)).bind itemsS := by kernel_rfl
  rw [e, if_pos (show szOk _ = true from decide_eq_true (by rw [ws_len]; exact Nat.le_trans h (by decide)))]
  show some (ws l).reverse = _
  unfold ws
  rw [List.map_reverse]
theorem bg_run {n : Nat} {wl : List Wd} (hw : wl.length ≤ 5) (hx : ∀ x ∈ wl, x.length ≤ 3) : ∃ o, Bgs wl o ∧ xCall T05 (n + 120) fBg [(.P, .list (ws wl))] = some (.list (ws o)) := by
  have hr : wl.reverse.length = wl.length := List.length_reverse
  obtain ⟨o, r, U, hm, hl, hr', e⟩ := bg_out (w := .list (ws wl)) wl.reverse (n + (13 - wl.reverse.length)) [] [] (fun x h => hx x (List.mem_reverse.mp h)) .nil (by rw [hr]; show 0 + _ ≤ _; (first | with_reducible exact Nat.le_trans (by assumption) (by decide) | lia | omega)) (.inl rfl)
  rw [show n + (13 - wl.reverse.length) + 102 + wl.reverse.length + 1 = n + 116 from a_fuel1 (by rw [hr]; exact Nat.le_trans hw (by decide)) rfl] at e
  refine ⟨o, ⟨U, fun y => (hm y).trans ⟨fun h => h.elim (fun h => by cases h) fun ⟨x, a, b⟩ => ⟨x, List.mem_reverse.mp a, b⟩, fun ⟨x, a, b⟩ => .inr ⟨x, List.mem_reverse.mpr a, b⟩⟩, by rw [hr] at hl; have : ([] : List Wd).length = 0 := rfl; (first | with_reducible exact Nat.le_trans (by assumption) (by decide) | lia | omega)⟩, ?_⟩
  obtain ⟨y0, hr2⟩ : ∃ y, r = [] ∨ W1v y r := hr'.elim (fun e => ⟨.none, .inl e⟩) fun ⟨y, h⟩ => ⟨y, .inr h⟩
  exact call_go (n := n + 119) (by kernel_rfl) (by kernel_rfl) (vars := [("words", .P, .list (ws wl))]) (ss_step (n := n + 118) bBg (bg_0 (n := n + 98)) (ss_step (n := n + 117) rfl ((bg_f (n := n + 97)).trans (bind_go (bg_rev wl (Nat.le_trans hw (by decide))) e)) (ss_ret (n := n + 116) rfl (bg_r (n := n + 96) hr2))))
theorem begins_call {n : Nat} {wl o : List Wd} (G : Bgs wl o) (hw : wl.length ≤ 5) (hx : ∀ x ∈ wl, x.length ≤ 3) : xCall T05 (n + 120) fBg [(.P, .list (ws wl))] = some (.list (ws o)) := by
  obtain ⟨o', G', e⟩ := bg_run (n := n) hw hx
  rw [e, up5_ext G'.up G.up fun y => (G'.mem y).trans (G.mem y).symm]
theorem Bgs.beg {wl o : List Wd} (G : Bgs wl o) (hn : wl ≠ []) : Beg5 o where
  nil := by
    cases wl with
    | nil => exact absurd rfl hn
    | cons x l => exact (G.mem []).mpr ⟨x, .head _, List.nil_prefix⟩
  pre := fun t c h => by
    obtain ⟨x, hx, p⟩ := (G.mem _).mp h
    exact (G.mem t).mpr ⟨x, hx, (List.prefix_append t [c]).trans p⟩
theorem ends_call {n : Nat} {wl o : List Wd} (G : Bgs wl o) (hn : wl ≠ []) (hw : wl.length ≤ 5) (hx : ∀ x ∈ wl, x.length ≤ 3) {t : Wd} (ht : t.length ≤ 8) :
    xCall T05 (n + 370) fE [(.P, .list (ws wl)), (.P, .str t)] = some (dic (bumps [] (evR o wl [] t))) := by
  obtain ⟨h, m, r, hm, hr, e⟩ := en_loop (w := wl) (tx := .str t) G.up (G.beg hn) G.len t [] (n + (25 - t.length)) .O [] [] (by rw [List.length_nil, Nat.zero_add]; exact ht) (.inr rfl) .nil (by rw [List.length_nil]; (first | with_reducible exact Nat.le_trans (by assumption) (by decide) | lia | omega)) (.inl rfl)
  rw [show n + (25 - t.length) + 340 + t.length + 1 = n + 366 from a_fuel1 (Nat.le_trans ht (by decide)) rfl] at e
  refine call_go (n := n + 369) (by kernel_rfl) (by kernel_rfl) (vars := E0 (.list (ws wl)) (.str t)) (ss_step (n := n + 368) bE (v' := E1 (.list (ws wl)) (.str t) (.list (ws o)) (.str []) .O (dic []) []) ((en_0 (n := n + 348)).trans ?_) (ss_step (n := n + 367) rfl ((en_f (n := n + 347)).trans e) (ss_ret (n := n + 366) rfl (en_r (n := n + 346) hm hr))))
  have c : cC1 (n + 348 + 16) fBg (kc (.list (ws wl))) = some (true, .list (ws o)) := by
    show (xCall T05 (n + 244 + 120) fBg [(.P, .list (ws wl))]).bind (fun v => some (true, v)) = _
    rw [begins_call G hw hx]; rfl
  rw [c]
  kernel_rfl
end Mine
namespace Mine
open PySem
noncomputable def occ (u : Wd) : Wd → Nat
  | [] => 0
  | c :: t => (if u <+: c :: t then 1 else 0) + occ u t
noncomputable def endN (u : Wd) : Wd → Wd → Nat
  | _, [] => 0
  | d, c :: t => (if u <:+ d ++ [c] then 1 else 0) + endN u (d ++ [c]) t
theorem if_iff {P Q : Prop} [Decidable P] [Decidable Q] (h : P ↔ Q) : (if P then 1 else 0 : Nat) = if Q then 1 else 0 := by
  by_cases p : P
  · rw [if_pos p, if_pos (h.mp p)]
  · rw [if_neg p, if_neg (fun q => p (h.mpr q))]
theorem occ_snoc {u : Wd} (hu : u ≠ []) (c : Nat) : ∀ d, occ u (d ++ [c]) = occ u d + if u <:+ d ++ [c] then 1 else 0
  | [] => by
    show (if u <+: [c] then 1 else 0) + 0 = 0 + (if u <:+ [c] then 1 else 0)
    rw [Nat.add_zero, Nat.zero_add]
    refine if_iff ⟨fun h => ?_, fun h => ?_⟩
    · rw [show u = [c] from ((List.prefix_concat_iff (l₂ := [])).mp h).resolve_right fun q => hu (List.prefix_nil.mp q)]; exact List.suffix_refl _
    · rw [show u = [c] from (List.suffix_cons_iff.mp h).resolve_right fun q => hu (List.suffix_nil.mp q)]; exact List.prefix_refl _
  | x :: d => by
    show (if u <+: x :: (d ++ [c]) then 1 else 0) + occ u (d ++ [c]) = ((if u <+: x :: d then 1 else 0) + occ u d) + if u <:+ x :: (d ++ [c]) then 1 else 0
    rw [occ_snoc hu c d]
    have key : (if u <+: x :: (d ++ [c]) then 1 else 0) + (if u <:+ d ++ [c] then 1 else 0) = (if u <+: x :: d then 1 else 0) + if u <:+ x :: (d ++ [c]) then 1 else 0 := by
      by_cases e : u = x :: (d ++ [c])
      · have n1 : ¬ u <+: x :: d := fun h => by have := h.length_le; rw [e] at this; simp at this; exact absurd this (Nat.not_succ_le_self _)
        have n2 : ¬ u <:+ d ++ [c] := fun h => by have := h.length_le; rw [e] at this; simp at this; exact absurd this (Nat.not_succ_le_self _)
        rw [if_pos (e ▸ List.prefix_refl _), if_neg n2, if_neg n1, if_pos (e ▸ List.suffix_refl _)]
      · have a : (u <+: x :: (d ++ [c])) ↔ u <+: x :: d := (List.prefix_concat_iff (l₂ := x :: d)).trans (or_iff_right e)
        have b : (u <:+ x :: (d ++ [c])) ↔ u <:+ d ++ [c] := List.suffix_cons_iff.trans (or_iff_right e)
        rw [if_iff a, if_iff b]
    (first | with_reducible exact Nat.le_trans (by assumption) (by decide) | lia | omega)
theorem occ_end {u : Wd} (hu : u ≠ []) : ∀ t d, occ u (d ++ t) = occ u d + endN u d t
  | [], d => by rw [List.append_nil]; rfl
  | c :: t, d => by
    rw [show d ++ c :: t = (d ++ [c]) ++ t by rw [List.append_assoc]; rfl, occ_end hu t (d ++ [c]), occ_snoc hu]
    exact Nat.add_assoc _ _ _
theorem occ_rev {u : Wd} (hu : u ≠ []) : ∀ t, occ u.reverse t.reverse = occ u t
  | [] => rfl
  | c :: t => by
    have hr : u.reverse ≠ [] := fun e => hu (List.reverse_eq_nil_iff.mp e)
    rw [List.reverse_cons, occ_snoc hr, occ_rev hu t, ← List.reverse_cons, if_iff List.reverse_suffix]
    exact Nat.add_comm _ _
theorem evs_count {wl : List Wd} {u : Wd} (hu : u ∈ wl) : ∀ l : List Wd, (evs wl l).count u = 2 * l.count u
  | [] => rfl
  | p :: l => by
    rw [evs_cons, List.count_append, evs_count hu l, List.count_cons]
    by_cases e : p = u
    · rw [e, if_pos hu, List.count_cons_self, List.count_cons_self, beq_self_eq_true]
      show 0 + 1 + 1 + 2 * _ = 2 * (_ + 1)
      (first | with_reducible exact Nat.le_trans (by assumption) (by decide) | lia | omega)
    · rw [beq_eq_false_iff_ne.mpr e]
      have z : (if p ∈ wl then [p, p] else []).count u = 0 := by
        by_cases h : p ∈ wl
        · rw [if_pos h, List.count_cons_of_ne e, List.count_cons_of_ne e]; rfl
        · rw [if_neg h]; rfl
      rw [z, Nat.zero_add]; rfl
theorem evR_count {o wl : List Wd} {u : Wd} (hw : u ∈ wl) (ho : u ∈ o) (hn : u ≠ []) : ∀ t d, (evR o wl d t).count u = 2 * endN u d t
  | [], _ => rfl
  | c :: t, d => by
    show (evs wl (nes o (d ++ [c])) ++ evR o wl (d ++ [c]) t).count u = 2 * ((if u <:+ d ++ [c] then 1 else 0) + endN u (d ++ [c]) t)
    rw [List.count_append, evs_count hw, nes_count ho hn, evR_count hw ho hn t (d ++ [c]), Nat.mul_add]
theorem evs_mem {wl l : List Wd} {p : Wd} (h : p ∈ evs wl l) : p ∈ wl := by
  obtain ⟨q, _, h⟩ := List.mem_flatMap.mp h
  by_cases hq : q ∈ wl
  · rw [if_pos hq] at h
    rcases List.mem_cons.mp h with rfl | h
    · exact hq
    · rw [List.mem_singleton.mp h]; exact hq
  · rw [if_neg hq] at h; cases h
theorem evR_mem {o wl : List Wd} {p : Wd} : ∀ {t d}, p ∈ evR o wl d t → p ∈ wl
  | [], _, h => by cases h
  | c :: t, d, h => (List.mem_append.mp h).elim evs_mem evR_mem
theorem sum_add2 {f g : Wd → Nat} : ∀ l : List Wd, (l.map fun w => f w + g w).sum = (l.map f).sum + (l.map g).sum
  | [] => rfl
  | x :: l => by rw [List.map_cons, List.map_cons, List.map_cons, List.sum_cons, List.sum_cons, List.sum_cons, sum_add2 l]; (first | with_reducible exact Nat.le_trans (by assumption) (by decide) | lia | omega)
theorem sum_one {p : Wd} : ∀ {l : List Wd}, l.Nodup → p ∈ l → (l.map fun w => if p == w then 1 else 0).sum = 1
  | [], _, h => by cases h
  | x :: l, hn, h => by
    have hn' := List.nodup_cons.mp hn
    rw [List.map_cons, List.sum_cons]
    by_cases e : p = x
    · have z : ∀ l : List Wd, p ∉ l → (l.map fun w => if p == w then 1 else 0).sum = 0 := fun l => by
        induction l with
        | nil => intro _; rfl
        | cons y l ih =>
          intro hp
          rw [List.map_cons, List.sum_cons, ih fun q => hp (.tail _ q), beq_eq_false_iff_ne.mpr fun (q : p = y) => hp (by rw [q]; exact .head _)]; rfl
      rw [z l (e ▸ hn'.1), e, beq_self_eq_true]; rfl
    · rw [sum_one hn'.2 ((List.mem_cons.mp h).resolve_left e), beq_eq_false_iff_ne.mpr e]; rfl
theorem sum_counts {wl : List Wd} (hn : wl.Nodup) : ∀ l : List Wd, (∀ p ∈ l, p ∈ wl) → l.length = (wl.map fun w => l.count w).sum
  | [], _ => by
    show 0 = (wl.map fun _ => 0).sum
    induction wl with
    | nil => rfl
    | cons x wl ih => rw [List.map_cons, List.sum_cons, ← ih (List.nodup_cons.mp hn).2 fun _ h => nomatch h]
  | p :: l, h => by
    have e : (fun w => (p :: l).count w) = fun w => l.count w + if p == w then 1 else 0 := funext fun w => List.count_cons
    rw [e, sum_add2, ← sum_counts hn l fun q hq => h q (.tail _ hq), sum_one hn (h p (.head _))]; rfl
theorem ends_count {wl o : List Wd} (G : Bgs wl o) {u t : Wd} (hw : u ∈ wl) (hn : u ≠ []) : (evR o wl [] t).count u = 2 * occ u t := by
  have ho : u ∈ o := (G.mem u).mpr ⟨u, hw, List.prefix_refl _⟩
  have h := occ_end hn t []
  rw [evR_count hw ho hn, show occ u t = endN u [] t from by rw [List.nil_append] at h; rw [h]; exact Nat.zero_add _]
theorem ends_total {wl o : List Wd} (G : Bgs wl o) (hd : wl.Nodup) (hn : ∀ u ∈ wl, u ≠ []) (t : Wd) : (evR o wl [] t).length = 2 * (wl.map fun u => occ u t).sum := by
  rw [sum_counts hd _ fun p hp => evR_mem hp]
  have : ∀ l : List Wd, (∀ u ∈ l, u ∈ wl) → (l.map fun w => (evR o wl [] t).count w).sum = 2 * (l.map fun u => occ u t).sum := fun l => by
    induction l with
    | nil => intro _; rfl
    | cons x l ih =>
      intro h
      rw [List.map_cons, List.sum_cons, List.map_cons, List.sum_cons, ih fun u hu => h u (.tail _ hu), ends_count G (h x (.head _)) (hn x (h x (.head _))), Nat.mul_add]
  exact this wl fun _ h => h
end Mine
namespace Mine
open PySem
noncomputable def fW : Fn := (entZ T05 10).2
noncomputable def bW (i : Nat) : Stmt := nthS fW.body i
theorem bWs : fW.body = bW 0 :: bW 1 :: bW 2 :: bW 3 :: bW 4 :: bW 5 :: bW 6 :: bW 7 :: bW 8 :: bW 9 :: bW 10 :: bW 11 :: bW 12 :: bW 13 :: bW 14 :: [] := by kernel_rfl
noncomputable def U0 (L w : PV) (m : Mode) (r : Vars) : Vars := ("script", .B, L) :: ("words", m, w) :: ("every", .P, evW) :: r
noncomputable def N1v (x : PV) (r : Vars) : Prop := r = [(("number" : Str), (Mode.P, x))] ∨ ∃ b : Mode × PV, r = [(("number" : Str), (Mode.P, x)), (("word" : Str), b)]
noncomputable def N2v (x y : PV) : Vars := [("number", .P, x), ("word", .P, y)]
theorem la_0 {n : Nat} {L : PV} : xS T05 (n + 100) fW.scope [("script", .B, L)] (bW 0) = some (.next (U0 L (.list []) .O [])) := by kernel_rfl
noncomputable def bi2E (b : BI) (x y : Option (Bool × PV)) : Option (Bool × PV) := (x.bind fun x => y.bind fun y => bi2 b x.2 y.2).bind fun v => some (true, v)
noncomputable def mxE (L : PV) : Option (Bool × PV) := bi2E .max (kc (.int 1)) (bi2E .min (kc (.int 4)) (((nm .B L).bind fun a => biV .len a).bind fun v => some (true, v)))
noncomputable def itL (L : PV) : Option (List PV) := ((cBin .Add (nm .B L) (kc (.list [.int 0]))).bind fun a => (cO (mxE L)).bind fun h => cutP a none h).bind itemsS
theorem la_f {n : Nat} {L w : PV} {m : Mode} : xS T05 (n + 20) fW.scope (U0 L w m []) (bW 1) = (itL L).bind fun items => xFor T05 (n + 19) fW.scope (U0 L w m []) (tgtE (bW 1)) (loopB (bW 1)) items := by kernel_rfl
theorem la_b {n : Nat} {L w x : PV} {m : Mode} {r : Vars} (hr : r = [] ∨ ∃ a b, r = N2v a b) : ∃ r', N1v x r' ∧ bindT (n + 9) fW.scope (tgtE (bW 1)) x (U0 L w m r) = some (U0 L w m r') := by
  rcases hr with rfl | ⟨a, b, rfl⟩
  · exact ⟨_, .inl rfl, by kernel_rfl⟩
  · exact ⟨_, .inr ⟨(.P, b), rfl⟩, by kernel_rfl⟩
theorem bW1 : loopB (bW 1) = nthS (loopB (bW 1)) 0 :: nthS (loopB (bW 1)) 1 :: [] := by kernel_rfl
theorem la_1 {n : Nat} {L w x : PV} {m : Mode} {r : Vars} (hr : N1v x r) : xS T05 (n + 20) fW.scope (U0 L w m r) (nthS (loopB (bW 1)) 0) = ((cItem (kc evW) (cBin .Mod (kc x) (kc (.int 14)))).bind pubM).bind fun s => some (.next (U0 L w m [("number", .P, x), ("word", s)])) := by
  rcases hr with rfl | ⟨b, rfl⟩ <;> kernel_rfl
theorem la_2 {n : Nat} {L x y : PV} {wl : List PV} {m : Mode} : xS T05 (n + 20) fW.scope (U0 L (.list wl) m (N2v x y)) (nthS (loopB (bW 1)) 1) = ((cBin .Add (nm m (.list wl)) ((cCmpT .NotIn (kc y) (nm m (.list wl))).bind fun c => bif c then ((kc y).bind fun v => some [v]).bind listP else kc (.list []))).bind pubM).bind fun s => some (.next (("script", .B, L) :: ("words", s) :: ("every", .P, evW) :: N2v x y)) := by kernel_rfl
noncomputable def S1 (L w a b : PV) (r : Vars) : Vars := U0 L w .P (("number", .P, a) :: ("word", .P, b) :: r)
noncomputable def c2 : Expr := argN 0 (asgE (bW 2))
theorem la_t {n : Nat} {L w a b : PV} : xS T05 (n + 20) fW.scope (S1 L w a b []) (bW 2) = cAsg "text" (S1 L w a b []) ((((((nm .B L).bind fun a => cutP a (some (.int 4)) (some (.int 12))).bind itemsP).bind fun its => cComp (xComp T05 (n + 16) (lcSc c2) [] (lcT c2) [] [] (lcElt c2) its))).bind fun b => (meth1 "join" (.str []) b.2).bind fun v => some (true, v)) := by kernel_rfl
noncomputable def S2 (L w a b t : PV) (r : Vars) : Vars := S1 L w a b (("text", .P, t) :: r)
theorem la_o {n : Nat} {L w a b t : PV} : xS T05 (n + 20) fW.scope (S2 L w a b t []) (bW 3) = cAsg "order" (S2 L w a b t []) (cC1 (n + 17) fBg (kc w)) := by kernel_rfl
noncomputable def S3 (L w a b t o : PV) (r : Vars) : Vars := S2 L w a b t (("order", .P, o) :: r)
noncomputable def lcR : Expr → List Comprehension
  | .ListComp _ gs _ _ => gs.drop 1
  | _ => []
noncomputable def c4 : Expr := argN 0 (argN 0 (match testOf (bW 4) with | .Compare _ _ (r :: _) _ => r | _ => noE))
theorem la_4 {n : Nat} {L a b t o : PV} {wl : List PV} : xS T05 (n + 20) fW.scope (S3 L (.list wl) a b t o []) (bW 4) = (cCmpT .NotEq (kc o) ((((((cComp (xComp T05 (n + 12) (lcSc c4) [] (lcT c4) [] (lcR c4) (lcElt c4) wl))).bind fun a => biV .dict a).bind fun v => some (true, v)).bind fun a => biV .sorted a).bind fun v => some (true, v))).bind fun c => bif c then xSs T05 (n + 19) fW.scope (S3 L (.list wl) a b t o []) (thenOf (bW 4)) else some (.next (S3 L (.list wl) a b t o [])) := by kernel_rfl
end Mine
namespace Mine
open PySem
noncomputable def subX : Expr → Expr
  | .Subscript v _ _ => v
  | .Compare l _ _ _ => l
  | .BoolOp _ es _ => es.getD 0 noE
  | _ => noE
noncomputable def subW : Expr → Expr
  | .BoolOp _ es _ => es.getD 1 noE
  | _ => noE
noncomputable def b5 : Stmt := nthS (loopB (bW 5)) 0
noncomputable def c5 : Expr := subX (asgE (nthS (loopB b5) 0))
noncomputable def OLD (x y d : PV) : Vars := [("one", .P, x), ("letter", .P, y), ("due", .P, d)]
noncomputable def D5 (r : Vars) : Prop := r = [] ∨ ∃ x y d, r = OLD x y d
noncomputable def O5 (x : PV) (r : Vars) : Prop := r = [(("one" : Str), (Mode.P, x))] ∨ ∃ y d : PV, r = OLD x y d
noncomputable def L5 (x y : PV) (r : Vars) : Prop := r = [(("one" : Str), (Mode.P, x)), (("letter" : Str), (Mode.P, y))] ∨ ∃ d : PV, r = OLD x y d
theorem bW5 : loopB (bW 5) = b5 :: [] := by kernel_rfl
theorem bW5b : loopB b5 = nthS (loopB b5) 0 :: nthS (loopB b5) 1 :: [] := by kernel_rfl
theorem la_5 {n : Nat} {L w a b t : PV} {ol : List PV} : xS T05 (n + 20) fW.scope (S3 L w a b t (.list ol) []) (bW 5) = xFor T05 (n + 19) fW.scope (S3 L w a b t (.list ol) []) (tgtE (bW 5)) (loopB (bW 5)) ol := by kernel_rfl
theorem la_5b {n : Nat} {L w a b t o x : PV} {r : Vars} (hr : D5 r) : ∃ r', O5 x r' ∧ bindT (n + 9) fW.scope (tgtE (bW 5)) x (S3 L w a b t o r) = some (S3 L w a b t o r') := by
  rcases hr with rfl | ⟨x', y, d, rfl⟩
  · exact ⟨_, .inl rfl, by kernel_rfl⟩
  · exact ⟨OLD x y d, .inr ⟨y, d, rfl⟩, by kernel_rfl⟩
theorem la_5c {n : Nat} {L w a b t o x : PV} {r : Vars} (hr : O5 x r) : xS T05 (n + 20) fW.scope (S3 L w a b t o r) b5 = xFor T05 (n + 19) fW.scope (S3 L w a b t o r) (tgtE b5) (loopB b5) [.str [97], .str [98]] := by
  rcases hr with rfl | ⟨y, d, rfl⟩ <;> kernel_rfl
theorem la_5d {n : Nat} {L w a b t o x y : PV} {r : Vars} (hr : O5 x r) : ∃ r', L5 x y r' ∧ bindT (n + 9) fW.scope (tgtE b5) y (S3 L w a b t o r) = some (S3 L w a b t o r') := by
  rcases hr with rfl | ⟨y', d, rfl⟩
  · exact ⟨_, .inl rfl, by kernel_rfl⟩
  · exact ⟨OLD x y d, .inr ⟨d, rfl⟩, by kernel_rfl⟩
noncomputable def itr5 (x : PV) : Option (List PV) := ((cBin .Add (lenE x) (kc (.int 2))).bind fun v => some [v]).bind fun as => evalRange (as.map (·.2))
noncomputable def W5 (o x y : PV) : Vars := [("order", .P, o), ("one", .P, x), ("letter", .P, y)]
theorem la_5e {n : Nat} {L w a b t o x y : PV} {r : Vars} (hr : L5 x y r) : xS T05 (n + 20) fW.scope (S3 L w a b t o r) (nthS (loopB b5) 0) = ((cItem ((itr5 x).bind fun its => cComp (xComp T05 (n + 16) (lcSc c5) (W5 o x y) (lcT c5) (lcIfs c5) [] (lcElt c5) its)) (kc (.int 0))).bind pubM).bind fun s => some (.next (S3 L w a b t o [("one", .P, x), ("letter", .P, y), ("due", s)])) := by
  rcases hr with rfl | ⟨d, rfl⟩ <;> kernel_rfl
theorem la_5f {n : Nat} {L w a b t o x y d : PV} : xS T05 (n + 20) fW.scope (S3 L w a b t o (OLD x y d)) (nthS (loopB b5) 1) = (cCmpT .NotEq (cC3 (n + 17) fG (kc o) (kc x) (kc y)) (kc d)).bind fun c => bif c then xSs T05 (n + 19) fW.scope (S3 L w a b t o (OLD x y d)) (thenOf (nthS (loopB b5) 1)) else some (.next (S3 L w a b t o (OLD x y d))) := by kernel_rfl
noncomputable def S5 (L w a b t o x y d : PV) (r : Vars) : Vars := S3 L w a b t o (("one", .P, x) :: ("letter", .P, y) :: ("due", .P, d) :: r)
theorem la_6 {n : Nat} {L w a b t o x y d : PV} : xS T05 (n + 20) fW.scope (S5 L w a b t o x y d []) (bW 6) = cAsg "table" (S5 L w a b t o x y d []) (cC2 (n + 17) fE (kc w) (kc t)) := by kernel_rfl
noncomputable def S6 (L w a b t o x y d g : PV) (r : Vars) : Vars := S5 L w a b t o x y d (("table", .P, g) :: r)
theorem la_7 {n : Nat} {L w a b t o x y d : PV} {D : Tbl} : xS T05 (n + 20) fW.scope (S6 L w a b t o x y d (dic D) []) (bW 7) = some (.next (S6 L w a b t o x y d (dic D) [])) := by kernel_rfl
noncomputable def c8 : Expr := argN 0 (asgE (bW 8))
theorem la_8 {n : Nat} {L a b t o x y d g : PV} {wl : List PV} : xS T05 (n + 20) fW.scope (S6 L (.list wl) a b t o x y d g []) (bW 8) = ((((cComp (xComp T05 (n + 15) (lcSc c8) [("text", .P, t)] (lcT c8) [] [] (lcElt c8) wl)).bind fun a => biV .dict a).bind fun v => some (true, v)).bind pubM).bind fun s => some (.next (S3 L (.list wl) a b t o [("one", .P, x), ("letter", .P, y), ("due", s), ("table", .P, g)])) := by kernel_rfl
noncomputable def c9 : Expr := subX (subX (testOf (bW 9)))
noncomputable def sumV (d : PV) : Option (Bool × PV) := ((viewP false (Str.ofString "values") (true, d)).bind fun l => biIt .sum l).bind fun v => some (true, v)
theorem la_9 {n : Nat} {L a b t o x y d g : PV} {wl : List PV} : xS T05 (n + 20) fW.scope (S6 L (.list wl) a b t o x y d g []) (bW 9) = (orT (cCmpT .NotEq (cComp (xComp T05 (n + 15) (lcSc c9) [("due", .P, d), ("table", .P, g)] (lcT c9) (lcIfs c9) [] (lcElt c9) wl)) (kc (.list []))) (orT (cCmpT .NotEq (cC1 (n + 14) fN (kc g)) (cBin .Mult (kc (.int 2)) (sumV d))) (some false))).bind fun c => bif c then xSs T05 (n + 19) fW.scope (S6 L (.list wl) a b t o x y d g []) (thenOf (bW 9)) else some (.next (S6 L (.list wl) a b t o x y d g [])) := by kernel_rfl
noncomputable def c10 : Expr := argN 0 (asgE (bW 10))
theorem la_10 {n : Nat} {L a b t o x y d g : PV} {wl : List PV} : xS T05 (n + 20) fW.scope (S6 L (.list wl) a b t o x y d g []) (bW 10) = cAsg "turned" (S6 L (.list wl) a b t o x y d g []) (cC2 (n + 17) fE (cComp (xComp T05 (n + 15) (lcSc c10) [] (lcT c10) [] [] (lcElt c10) wl)) (revP (true, t) (.int (-1)))) := by kernel_rfl
noncomputable def S7 (L w a b t o x y d g h : PV) (r : Vars) : Vars := S6 L w a b t o x y d g (("turned", .P, h) :: r)
noncomputable def c11 : Expr := subX (subW (testOf (bW 11)))
theorem la_11 {n : Nat} {L a b t o x y d g : PV} {wl : List PV} {D : Tbl} : xS T05 (n + 20) fW.scope (S7 L (.list wl) a b t o x y d g (dic D) []) (bW 11) = (orT (cCmpT .NotEq (cComp (xComp T05 (n + 14) (lcSc c11) [("due", .P, d), ("turned", .P, dic D)] (lcT c11) (lcIfs c11) [] (lcElt c11) wl)) (kc (.list []))) (some false)).bind fun c => bif c then xSs T05 (n + 19) fW.scope (S7 L (.list wl) a b t o x y d g (dic D) []) (thenOf (bW 11)) else some (.next (S7 L (.list wl) a b t o x y d g (dic D) [])) := by kernel_rfl
theorem la_12 {n : Nat} {L w a b t o x y d g h : PV} : xS T05 (n + 20) fW.scope (S7 L w a b t o x y d g h []) (bW 12) = cAsg "piece" (S7 L w a b t o x y d g h []) ((cItem (kc w) (kc (.int 0))).bind fun a => cutP a (some (.int (-1))) none) := by kernel_rfl
noncomputable def S8 (L w a b t o x y d g h p : PV) (r : Vars) : Vars := S7 L w a b t o x y d g h (("piece", .P, p) :: r)
noncomputable def wlE (w p : PV) : Option (Bool × PV) := cBin .Add (kc w) ((cCmpT .NotIn (kc p) (kc w)).bind fun c => bif c then ((kc p).bind fun v => some [v]).bind listP else kc (.list []))
theorem la_13 {n : Nat} {L w a b t o x y d g h p : PV} : xS T05 (n + 20) fW.scope (S8 L w a b t o x y d g h p []) (bW 13) = cAsg "more" (S8 L w a b t o x y d g h p []) (cC2 (n + 17) fE (wlE w p) (kc t)) := by kernel_rfl
noncomputable def gE (D : Tbl) (q : Wd) : Option (Bool × PV) := (meth2 (Str.ofString "get") (dic D) (key q) (.int 0)).bind fun v => some (true, v)
theorem la_14 {n : Nat} {L w a b t o x y d g h : PV} {p : Wd} {D : Tbl} : xS T05 (n + 20) fW.scope (S8 L w a b t o x y d g h (.str p) [("more", .P, dic D)]) (bW 14) = cRt ((lastA (cCmpE .Eq (gE D p) (cBin .Mult (kc (.int 2)) ((meth1 (Str.ofString "count") t (.str p)).bind fun v => some (true, v))))).bind fun b => some (true, .bool b)) := by kernel_rfl
end Mine
namespace Mine
open PySem
theorem evalMd (a b : Int) : evalBin .Mod (.int a) (.int b) = if decide (0 < b) = true then some (PV.int (a % b)) else none := by
  unfold evalBin intPs intP
  rfl
noncomputable def nums (ns : List Int) : List PV := ns.map .int
theorem join_letters : ∀ l : List Nat, joinP (l.map fun c => .str [c]) = some l
  | [] => rfl
  | c :: l => by
    show (some [c]).bind (fun a => (joinP (l.map fun c => .str [c])).bind fun b => some (a ++ b)) = _
    rw [join_letters]; rfl
theorem join_go {l : List Nat} (h : l.length ≤ 1000) : meth1 "join" (.str []) (.list (l.map fun c => .str [c])) = some (.str l) := by
  have e : meth1 "join" (.str []) (.list (l.map fun c => PV.str [c])) = if szOk (l.map fun c => PV.str [c]).length = true then (joinP (l.map fun c => PV.str [c])).bind fun x => if szOk ((l.map fun c => PV.str [c]).length + x.length) = true then some (.str x) else none else none := by kernel_rfl
  rw [e, if_pos (show szOk _ = true from decide_eq_true (by rw [List.length_map]; (first | with_reducible exact Nat.le_trans (by assumption) (by decide) | lia | omega))), join_letters]
  exact if_pos (show szOk _ = true from decide_eq_true (by rw [List.length_map]; (first | with_reducible exact Nat.le_trans (by assumption) (by decide) | lia | omega)))
theorem imms_int (ns : List Int) : PV.imms (nums ns) = true := by
  unfold PV.imms nums
  rw [List.all_map, List.all_eq_true]
  intro e _
  rfl
theorem add_list {a b : List PV} (h : a.length + b.length ≤ 1000000) : evalBin .Add (.list a) (.list b) = some (.list (a ++ b)) := by
  have e : evalBin .Add (.list a) (.list b) = if szOk (a.length + b.length) = true then some (PV.list (a ++ b)) else none := by kernel_rfl
  rw [e, if_pos (show szOk _ = true from decide_eq_true h)]
noncomputable def wdOf (x : Int) : Wd := evL.getD (x % 14).toNat []
theorem ev_at (i : Nat) (h : i < 14) : evalSub evW (.int (i : Nat)) = some (.str (evL.getD i [])) := by
  refine sub_list (l := evL.map .str) ?_ (by decide)
  rw [List.getElem?_map, List.getD_eq_getElem?_getD, List.getElem?_eq_getElem (show i < evL.length from h)]; rfl
theorem ev_item (x : Int) : cItem (kc evW) (cBin .Mod (kc (.int x)) (kc (.int 14))) = some (true, .str (wdOf x)) := by
  have e1 : evalBin .Mod (.int x) (.int 14) = some (.int (x % 14)) := by rw [evalMd, if_pos (by decide)]
  have e2 : evalSub evW (.int (x % 14)) = some (.str (wdOf x)) := by
    have h1 := Int.emod_nonneg x (show (14 : Int) ≠ 0 by decide)
    have h2 := (Int.toNat_lt h1).mpr (Int.emod_lt_of_pos x (show (0 : Int) < 14 by decide))
    have e := Int.toNat_of_nonneg h1
    unfold wdOf
    rw [← e]
    exact ev_at _ h2
  exact cItem_go rfl (cBin_go rfl rfl e1) e2
theorem evL_ok : ∀ w ∈ evL, w ≠ [] ∧ w.length ≤ 3 ∧ ∀ c ∈ w, c < 100 := by decide
theorem wdOf_mem (x : Int) : wdOf x ∈ evL := by
  have h1 := Int.emod_nonneg x (show (14 : Int) ≠ 0 by decide)
  have h2 := Int.emod_lt_of_pos x (show (0 : Int) < 14 by decide)
  have h3 : (x % 14).toNat < evL.length := (Int.toNat_lt h1).mpr h2
  unfold wdOf
  rw [List.getD_eq_getElem?_getD, List.getElem?_eq_getElem h3]
  exact List.getElem_mem h3
structure Wk (wl : List Wd) : Prop where
  nd : wl.Nodup
  ok : ∀ w ∈ wl, w ≠ [] ∧ w.length ≤ 3
noncomputable def addW (wl : List Wd) (y : Wd) : List Wd := wl ++ if y ∈ wl then [] else [y]
theorem addW_ne (wl : List Wd) (y : Wd) : addW wl y ≠ [] := by
  unfold addW
  by_cases h : y ∈ wl
  · rw [if_pos h, List.append_nil]; rintro rfl; cases h
  · rw [if_neg h]; exact fun e => by cases List.append_eq_nil_iff.mp e with | intro a b => cases b
theorem addW_len (wl : List Wd) (y : Wd) : (addW wl y).length ≤ wl.length + 1 := by
  unfold addW
  rw [List.length_append]
  by_cases h : y ∈ wl
  · rw [if_pos h]; exact Nat.le_succ _
  · rw [if_neg h]; exact Nat.le_refl _
theorem Wk.add {wl : List Wd} (K : Wk wl) {y : Wd} (hy : y ≠ [] ∧ y.length ≤ 3) : Wk (addW wl y) := by
  unfold addW
  by_cases h : y ∈ wl
  · rw [if_pos h, List.append_nil]; exact K
  · rw [if_neg h]
    exact ⟨List.nodup_append.mpr ⟨K.nd, List.nodup_cons.mpr ⟨List.not_mem_nil, List.nodup_nil⟩, fun a ha b hb => by rw [List.mem_singleton.mp hb]; rintro rfl; exact h ha⟩, fun w hw => (List.mem_append.mp hw).elim (K.ok w) fun q => by rw [List.mem_singleton.mp q]; exact hy⟩
theorem ws_app (a b : List Wd) : ws (a ++ b) = ws a ++ ws b := List.map_append
theorem ws_imms (a : List Wd) : PV.imms (ws a) = true := by
  unfold PV.imms ws
  rw [List.all_map, List.all_eq_true]
  intro e _
  rfl
theorem notin_ws (q : Wd) (wl : List Wd) : evalCmp .NotIn (.str q) (.list (ws wl)) = some (!decide (q ∈ wl)) := by
  show (isInL (.str q) (ws wl)).bind (fun c => some (!c)) = _
  rw [in_ws]; rfl
theorem ifE_go {y : Wd} {wl : List Wd} {m : Mode} : ((cCmpT .NotIn (kc (.str y)) (nm m (.list (ws wl)))).bind fun c => bif c then ((kc (.str y)).bind fun v => some [v]).bind listP else kc (.list [])) = some (true, .list (ws (if y ∈ wl then [] else [y]))) := by
  rw [cCmpT_go (ea := kc (.str y)) (eb := nm m (.list (ws wl))) rfl (nm_eq _ _) (notin_ws y wl)]
  by_cases h : y ∈ wl
  · rw [if_pos h, decide_eq_true h]; rfl
  · rw [if_neg h, decide_eq_false h]; rfl
theorem addW_go {wl : List Wd} {y : Wd} {m : Mode} (hl : wl.length ≤ 20) : cBin .Add (nm m (.list (ws wl))) (some (true, .list (ws (if y ∈ wl then [] else [y])))) = some (true, .list (ws (addW wl y))) := by
  have h : (ws wl).length + (ws (if y ∈ wl then [] else [y])).length ≤ 1000000 := by
    rw [ws_len, ws_len]
    by_cases h : y ∈ wl
    · rw [if_pos h]; show _ + 0 ≤ _; (first | with_reducible exact Nat.le_trans (by assumption) (by decide) | lia | omega)
    · rw [if_neg h]; show _ + 1 ≤ _; (first | with_reducible exact Nat.le_trans (by assumption) (by decide) | lia | omega)
  rw [cBin_go (nm_eq _ _) rfl (add_list h)]
  show some (((_ || PV.imms (ws wl)) && (true || _)), _) = _
  rw [ws_imms, Bool.or_true, Bool.true_or, ← ws_app]; rfl
theorem la_step {n : Nat} {L : PV} {x : Int} {wl : List Wd} {m : Mode} {r : Vars} (hl : wl.length ≤ 20) (hr : r = [] ∨ ∃ a b, r = N2v a b) :
    ∃ v1, bindT (n + 40) fW.scope (tgtE (bW 1)) (.int x) (U0 L (.list (ws wl)) m r) = some v1 ∧ xSs T05 (n + 40) fW.scope v1 (loopB (bW 1)) = some (.next (U0 L (.list (ws (addW wl (wdOf x)))) .P (N2v (.int x) (.str (wdOf x))))) := by
  obtain ⟨r1, hr1, e1⟩ := la_b (n := n + 31) (L := L) (w := .list (ws wl)) (x := .int x) (m := m) hr
  refine ⟨_, e1, ss_step (n := n + 39) bW1 (v' := U0 L (.list (ws wl)) m (N2v (.int x) (.str (wdOf x)))) ((la_1 (n := n + 19) hr1).trans (by rw [ev_item]; rfl)) (ss_step (n := n + 38) rfl ((la_2 (n := n + 18)).trans ?_) (ss_nil rfl))⟩
  rw [ifE_go, addW_go hl]; rfl
theorem la_loop {L : PV} : ∀ (xs : List Int) (n : Nat) (wl : List Wd) (a b : PV), Wk wl → wl ≠ [] → wl.length + xs.length ≤ 20 →
    ∃ wl' a' b', Wk wl' ∧ wl' ≠ [] ∧ wl'.length ≤ wl.length + xs.length ∧ xFor T05 (n + 40 + xs.length + 1) fW.scope (U0 L (.list (ws wl)) .P (N2v a b)) (tgtE (bW 1)) (loopB (bW 1)) (nums xs) = some (.next (U0 L (.list (ws wl')) .P (N2v a' b')))
  | [], n, wl, a, b, K, hn, _ => ⟨wl, a, b, K, hn, Nat.le_refl _, rfl⟩
  | x :: xs, n, wl, a, b, K, hn, hl => by
    rw [List.length_cons] at hl
    have h1 := addW_len wl (wdOf x)
    have hy := evL_ok _ (wdOf_mem x)
    obtain ⟨v1, e1, e2⟩ := la_step (n := n + xs.length + 1) (L := L) (x := x) (wl := wl) (m := .P) (Nat.le_trans (Nat.le_add_right _ _) hl) (.inr ⟨a, b, rfl⟩)
    obtain ⟨wl', a', b', K', hn', hl', e3⟩ := la_loop xs n (addW wl (wdOf x)) (.int x) (.str (wdOf x)) (K.add ⟨hy.1, hy.2.1⟩) (addW_ne _ _) (a_tr2 h1 hl)
    rw [a_sw n xs.length 40] at e1 e2
    exact ⟨wl', a', b', K', hn', by rw [List.length_cons]; exact a_tr1 h1 hl', for_go e1 e2 e3⟩
theorem la_all {n : Nat} {L : PV} {x : Int} {xs : List Int} (hl : xs.length ≤ 3) :
    ∃ wl a b, Wk wl ∧ wl ≠ [] ∧ wl.length ≤ 4 ∧ xFor T05 (n + 45) fW.scope (U0 L (.list []) .O []) (tgtE (bW 1)) (loopB (bW 1)) (nums (x :: xs)) = some (.next (U0 L (.list (ws wl)) .P (N2v a b))) := by
  have hy := evL_ok _ (wdOf_mem x)
  obtain ⟨v1, e1, e2⟩ := la_step (n := n + 4) (L := L) (x := x) (wl := []) (m := .O) (Nat.zero_le _) (.inl rfl)
  have K0 : Wk ([] : List Wd) := ⟨List.nodup_nil, fun _ h => by cases h⟩
  have h1 := addW_len [] (wdOf x)
  obtain ⟨wl', a', b', K', hn', hl', e3⟩ := la_loop (L := L) xs (n + (3 - xs.length)) (addW [] (wdOf x)) (.int x) (.str (wdOf x)) (K0.add ⟨hy.1, hy.2.1⟩) (addW_ne _ _) (Nat.le_trans (Nat.add_le_add h1 hl) (by decide))
  rw [show n + (3 - xs.length) + 40 + xs.length + 1 = n + 44 from a_fuel1 hl rfl] at e3
  exact ⟨wl', a', b', K', hn', Nat.le_trans hl' (Nat.add_le_add h1 hl), for_go (m := n + 44) e1 e2 e3⟩
end Mine
namespace Mine
open PySem
noncomputable def mN (l : Nat) : Nat := max 1 (min 4 l)
theorem bi_min (a b : Int) : bi2 .min (.int a) (.int b) = some (.int (if b < a then b else a)) := rfl
theorem bi_max (a b : Int) : bi2 .max (.int a) (.int b) = some (.int (if a < b then b else a)) := rfl
theorem bi2E_go {b : BI} {x y : Option (Bool × PV)} {f g : Bool} {u v r : PV} (h1 : x = some (f, u)) (h2 : y = some (g, v)) (h : bi2 b u v = some r) : bi2E b x y = some (true, r) := by
  rw [h1, h2]
  exact kcB h
theorem mx_go {ns : List Int} (h : ns.length ≤ 63) : mxE (.list (nums ns)) = some (true, .int ((mN ns.length : Nat) : Int)) := by
  have hl : lenP (.list (nums ns)) = some (.int ns.length) := by
    have := lenP_list (l := nums ns) (by unfold nums; rw [List.length_map]; (first | with_reducible exact Nat.le_trans (by assumption) (by decide) | lia | omega))
    unfold nums at this ⊢
    rw [List.length_map] at this; exact this
  have e1 : (((nm .B (.list (nums ns))).bind fun a => biV .len a).bind fun v => some (true, v)) = some (true, .int ns.length) := kcB (bind_go (nm_eq _ _) hl)
  have e2 := bi2E_go (b := .max) (x := kc (.int 1)) rfl (bi2E_go (b := .min) (x := kc (.int 4)) rfl e1 (bi_min _ _)) (bi_max _ _)
  refine e2.trans (congrArg (fun i => some (true, PV.int i)) ?_)
  exact a_maxmin ns.length
theorem itL_go {ns : List Int} (h : ns.length ≤ 63) : ∃ x xs, xs.length ≤ 3 ∧ itL (.list (nums ns)) = some (nums (x :: xs)) := by
  have hm : 1 ≤ mN ns.length ∧ mN ns.length ≤ 4 := ⟨Nat.le_max_left _ _, Nat.max_le.mpr ⟨by decide, Nat.min_le_left _ _⟩⟩
  obtain ⟨x, xs, e⟩ : ∃ x xs, (ns ++ [(0 : Int)]).take (mN ns.length) = x :: xs := by
    obtain ⟨k, hk⟩ : ∃ k, mN ns.length = k + 1 := ⟨_, (Nat.sub_add_cancel hm.1).symm⟩
    rw [hk]
    cases ns with
    | nil => exact ⟨0, _, rfl⟩
    | cons y ns => exact ⟨y, _, rfl⟩
  have hlen : (x :: xs).length ≤ 4 := by rw [← e, List.length_take]; exact Nat.le_trans (Nat.min_le_left _ _) hm.2
  refine ⟨x, xs, Nat.le_of_succ_le_succ hlen, ?_⟩
  have hL : (nums ns).length = ns.length := List.length_map ..
  have ea : cBin .Add (nm .B (.list (nums ns))) (kc (.list [.int 0])) = some (true, .list (nums (ns ++ [0]))) := by
    refine (cBin_go (eb := kc (.list [.int 0])) (nm_eq .B (.list (nums ns))) rfl (add_list (a := nums ns) (b := [.int 0]) (by rw [hL]; show ns.length + 1 ≤ _; (first | with_reducible exact Nat.le_trans (by assumption) (by decide) | lia | omega)))).trans ?_
    show some (((_ || PV.imms (nums ns)) && (true || _)), _) = _
    rw [imms_int, Bool.or_true, Bool.true_or]
    unfold nums
    rw [List.map_append]; rfl
  refine bind_go (a := (true, .list (nums (x :: xs)))) (bind_go ea (bind_go (a := some (.int ((mN ns.length : Nat) : Int))) (by unfold cO; rw [mx_go h]; rfl) ?_)) rfl
  rw [cutP_go bound_none (bound_nat (by (first | with_reducible exact Nat.le_trans (by assumption) (by decide) | lia | omega))) (cut_list (by unfold nums; rw [List.length_map, List.length_append]; show ns.length + 1 ≤ _; (first | with_reducible exact Nat.le_trans (by assumption) (by decide) | lia | omega))), cut_to]
  unfold nums
  rw [← List.map_take, e]; rfl
noncomputable def ab (x : Int) : Nat := if x % 2 = 0 then 97 else 98
noncomputable def cE2 (x : PV) : Option (Bool × PV) := cItem (kc (.str [97, 98])) (cBin .Mod (kc x) (kc (.int 2)))
theorem c2_step {n : Nat} {v : Vars} {x : PV} (h : One "number" v) : zCompStep (zRec T05 (n + 12)) (lcSc c2) v (lcT c2) [] [] (lcElt c2) x (n + 12) = pubL [("number", .P, x)] (cE2 x) := by
  rcases h with rfl | ⟨a, rfl⟩ <;> kernel_rfl
theorem cE2_go (x : Int) : cE2 (.int x) = some (true, .str [ab x]) := by
  have e1 : evalBin .Mod (.int x) (.int 2) = some (.int (x % 2)) := by rw [evalMd, if_pos (by decide)]
  have e2 : evalSub (.str [97, 98]) (.int (x % 2)) = some (.str [ab x]) := by
    have h1 := Int.emod_nonneg x (show (2 : Int) ≠ 0 by decide)
    have h2 := Int.emod_lt_of_pos x (show (0 : Int) < 2 by decide)
    unfold ab
    generalize x % 2 = r at *
    have h3 : r = 0 ∨ r = 1 := by (first | with_reducible exact Nat.le_trans (by assumption) (by decide) | lia | omega)
    rcases h3 with rfl | rfl <;> kernel_rfl
  exact cItem_go rfl (cBin_go rfl rfl e1) e2
noncomputable def g2 : PV → List PV
  | .int x => [.str [ab x]]
  | _ => []
theorem flat_ab : ∀ ns : List Int, (nums ns).flatMap g2 = (ns.map ab).map fun c => .str [c]
  | [] => rfl
  | x :: ns => by
    show g2 (.int x) ++ (nums ns).flatMap g2 = _
    rw [flat_ab]; rfl
theorem c2_go {n : Nat} (ns : List Int) : ∃ v, xComp T05 (n + 12 + ns.length + 1) (lcSc c2) [] (lcT c2) [] [] (lcElt c2) (nums ns) = some ((ns.map ab).map fun c => .str [c], v) := by
  obtain ⟨v, h, _⟩ := comp_inv (T := T05) (c := 12) (sc := lcSc c2) (t := lcT c2) (ifs := []) (rest := []) (elt := lcElt c2) (g := g2) (P := fun rem v => (∃ ms, rem = nums ms) ∧ One "number" v) (fun x xs v m hP => by
    obtain ⟨⟨ms, e⟩, hv⟩ := hP
    cases ms with
    | nil => cases e
    | cons i ms =>
      obtain ⟨rfl, rfl⟩ := List.cons.inj e
      refine ⟨[("number", .P, .int i)], (c2_step hv).trans ?_, ⟨ms, rfl⟩, .inr ⟨_, rfl⟩⟩
      rw [cE2_go]; rfl) (nums ns) [] n ⟨⟨ns, rfl⟩, .inl rfl⟩
  rw [flat_ab, show (nums ns).length = ns.length from List.length_map ..] at h
  exact ⟨v, h⟩
theorem cut_some {α : Type} (l : List α) : ∃ k j, j ≤ 8 ∧ cut l (some 4) (some 12) = (l.drop k).take j := by
  refine ⟨_, _, ?_, rfl⟩
  show clip l.length 12 - clip l.length 4 ≤ 8
  rw [show clip l.length 12 = min 12 l.length from a_clamp 12 _, show clip l.length 4 = min 4 l.length from a_clamp 4 _]
  exact a_win 4 8 _
theorem text_go {n : Nat} {ns : List Int} (h : ns.length ≤ 63) {w a b : PV} : ∃ t, t.length ≤ 8 ∧ xS T05 (n + 40) fW.scope (S1 (.list (nums ns)) w a b []) (bW 2) = some (.next (S2 (.list (nums ns)) w a b (.str t) [])) := by
  have hL : (nums ns).length = ns.length := List.length_map ..
  obtain ⟨k, j, hj, e⟩ := cut_some (nums ns)
  have e' : cut (nums ns) (some 4) (some 12) = nums ((ns.drop k).take j) := by rw [e]; unfold nums; rw [List.map_take, List.map_drop]
  have hl : ((ns.drop k).take j).length ≤ 8 := by rw [List.length_take]; exact Nat.le_trans (Nat.min_le_left _ _) hj
  refine ⟨((ns.drop k).take j).map ab, by rw [List.length_map]; exact hl, (la_t (n := n + 20)).trans ?_⟩
  have e1 : ((nm .B (.list (nums ns))).bind fun a => cutP a (some (.int 4)) (some (.int 12))).bind itemsP = some (nums ((ns.drop k).take j)) := by
    refine bind_go (a := (true, .list (nums ((ns.drop k).take j)))) (bind_go (nm_eq _ _) ?_) rfl
    refine (cutP_go (lo := some 4) (hi := some 12) (bound_nat (i := 4) (by decide)) (bound_nat (i := 12) (by decide)) (cut_list (l := nums ns) (by rw [hL]; (first | with_reducible exact Nat.le_trans (by assumption) (by decide) | lia | omega)))).trans ?_
    show some (_ || PV.imms (nums ns), PV.list (cut (nums ns) (some 4) (some 12))) = _
    rw [imms_int, Bool.or_true, e']
  obtain ⟨v, e2⟩ := c2_go (n := n + (23 - ((ns.drop k).take j).length)) ((ns.drop k).take j)
  rw [show n + (23 - ((ns.drop k).take j).length) + 12 + ((ns.drop k).take j).length + 1 = n + 20 + 16 from a_fuel1 (m := 36) (Nat.le_trans hl (by decide)) rfl] at e2
  refine (cAsg_go (v := .str (((ns.drop k).take j).map ab)) (bind_go (a := (true, PV.list ((((ns.drop k).take j).map ab).map fun c => .str [c]))) (bind_go e1 (cComp_go e2 (by rw [List.length_map, List.length_map]; (first | with_reducible exact Nat.le_trans (by assumption) (by decide) | lia | omega)))) (kcB (join_go (by rw [List.length_map]; (first | with_reducible exact Nat.le_trans (by assumption) (by decide) | lia | omega)))))).trans (by kernel_rfl)
theorem front {n : Nat} {ns : List Int} (h : ns.length ≤ 63) : ∃ wl a b t o, Wk wl ∧ wl ≠ [] ∧ wl.length ≤ 4 ∧ t.length ≤ 8 ∧ Bgs wl o ∧ ∀ r, xSs T05 (n + 496) fW.scope (S3 (.list (nums ns)) (.list (ws wl)) a b (.str t) (.list (ws o)) []) (bW 4 :: bW 5 :: bW 6 :: bW 7 :: bW 8 :: bW 9 :: bW 10 :: bW 11 :: bW 12 :: bW 13 :: bW 14 :: []) = r → xSs T05 (n + 500) fW.scope [("script", .B, .list (nums ns))] fW.body = r := by
  obtain ⟨x, xs, hx, e1⟩ := itL_go h
  obtain ⟨wl, a, b, K, hn, hl, e2⟩ := la_all (n := n + 452) (L := .list (nums ns)) (x := x) hx
  obtain ⟨t, ht, e3⟩ := text_go (n := n + 457) h (w := .list (ws wl)) (a := a) (b := b)
  obtain ⟨o, G, _⟩ := bg_run (n := 0) (Nat.le_succ_of_le hl) (fun w hw => (K.ok w hw).2)
  refine ⟨wl, a, b, t, o, K, hn, hl, ht, G, fun r hr => ?_⟩
  refine ss_step (n := n + 499) bWs (la_0 (n := n + 399)) (ss_step (n := n + 498) rfl (v' := S1 (.list (nums ns)) (.list (ws wl)) a b []) ((la_f (n := n + 478)).trans (bind_go e1 e2)) (ss_step (n := n + 497) rfl e3 (ss_step (n := n + 496) rfl ((la_o (n := n + 476)).trans ?_) hr)))
  have c : cC1 (n + 476 + 17) fBg (kc (.list (ws wl))) = some (true, .list (ws o)) := by
    show (xCall T05 (n + 373 + 120) fBg [(.P, .list (ws wl))]).bind (fun v => some (true, v)) = _
    rw [begins_call G (Nat.le_succ_of_le hl) (fun w hw => (K.ok w hw).2)]; rfl
  rw [cAsg_go c]
  kernel_rfl
end Mine
namespace Mine
open PySem
noncomputable def c4t : Expr := match lcR c4 with | g :: _ => g.target | _ => noE
noncomputable def Wv (r : Vars) : Prop := r = [] ∨ (∃ a : Mode × PV, r = [(("word" : Str), a)]) ∨ ∃ a b : Mode × PV, r = [(("word" : Str), a), (("k" : Str), b)]
noncomputable def Wx (x : PV) (r : Vars) : Prop := r = [(("word" : Str), (Mode.P, x))] ∨ ∃ b : Mode × PV, r = [(("word" : Str), (Mode.P, x)), (("k" : Str), b)]
noncomputable def rg (x : PV) : Option (List PV) := ((cBin .Add (lenE x) (kc (.int 1))).bind fun v => some [v]).bind fun as => evalRange (as.map (·.2))
theorem c4_step {n : Nat} {v : Vars} {x : PV} (h : Wv v) : ∃ v', Wx x v' ∧ zCompStep (zRec T05 (n + 15)) (lcSc c4) v (lcT c4) [] (lcR c4) (lcElt c4) x (n + 15) = (rg x).bind fun its => xComp T05 (n + 14) (lcSc c4) v' c4t [] [] (lcElt c4) its := by
  rcases h with rfl | ⟨a, rfl⟩ | ⟨a, b, rfl⟩
  · exact ⟨_, .inl rfl, by kernel_rfl⟩
  · exact ⟨_, .inl rfl, by kernel_rfl⟩
  · exact ⟨_, .inr ⟨b, rfl⟩, by kernel_rfl⟩
noncomputable def pr4 (x k : PV) : Option (Bool × PV) := ((cTo x k).bind fun v => some (v :: [(true, .int 1)])).bind tupP
theorem c4_in {n : Nat} {v : Vars} {x k : PV} (h : Wx x v) : zCompStep (zRec T05 (n + 12)) (lcSc c4) v c4t [] [] (lcElt c4) k (n + 12) = pubL [("word", .P, x), ("k", .P, k)] (pr4 x k) := by
  rcases h with rfl | ⟨b, rfl⟩ <;> kernel_rfl
noncomputable def one4 (y : Wd) : PV := .tup [.str y, .int 1]
noncomputable def begs (x : Wd) : List Wd := (List.range (x.length + 1)).map fun k => x.take k
noncomputable def g4 (x : Wd) : PV → List PV
  | .int k => [one4 (x.take k.toNat)]
  | _ => []
theorem pr4_go {x : Wd} {k : Nat} (hk : k ≤ 1000) (hx : x.length ≤ 1000) : pr4 (.str x) (.int k) = some (true, one4 (x.take k)) := by
  unfold pr4
  rw [cTo_go hk hx]; kernel_rfl
theorem rg_go {x : Wd} (hx : x.length ≤ 1000) : rg (.str x) = some (rng (x.length + 1)) := by
  have this := range_nat (n := x.length + 1) (by omega)
  exact bind_go (a := [(true, .int ((x.length + 1 : Nat) : Int))]) (bind_go (a := (true, PV.int ((x.length + 1 : Nat) : Int))) (cBin_go (lenE_str (Nat.le_trans hx (by decide))) rfl (add_int _ _)) rfl) (range_of rfl this)
theorem flat_begs (x : Wd) : (rng (x.length + 1)).flatMap (g4 x) = (begs x).map one4 := by
  unfold rng begs
  rw [List.flatMap_map, List.map_map, List.map_eq_flatMap]; rfl
theorem c4_inner {n : Nat} {v : Vars} {x : Wd} (hx : x.length ≤ 3) (h : Wx (.str x) v) : ∃ v', Wx (.str x) v' ∧ xComp T05 (n + 20) (lcSc c4) v c4t [] [] (lcElt c4) (rng (x.length + 1)) = some ((begs x).map one4, v') := by
  obtain ⟨v', h', _, h''⟩ := comp_inv (T := T05) (c := 12) (sc := lcSc c4) (t := c4t) (ifs := []) (rest := []) (elt := lcElt c4) (g := g4 x) (P := fun rem v => (∃ i, rem = (rng (x.length + 1)).drop i) ∧ Wx (.str x) v) (fun y ys v m hP => by
    obtain ⟨⟨i, e⟩, hv⟩ := hP
    obtain ⟨q1, q2, q3⟩ := rng_drop e
    rw [q2]
    refine ⟨[("word", .P, .str x), ("k", .P, .int i)], (c4_in hv).trans ?_, ⟨i + 1, q3⟩, .inr ⟨_, rfl⟩⟩
    rw [pr4_go (by (first | with_reducible exact Nat.le_trans (by assumption) (by decide) | lia | omega)) (by (first | with_reducible exact Nat.le_trans (by assumption) (by decide) | lia | omega))]; rfl) (rng (x.length + 1)) v (n + (7 - (x.length + 1))) ⟨⟨0, rfl⟩, h⟩
  rw [flat_begs, rng_len, show n + (7 - (x.length + 1)) + 12 + (x.length + 1) + 1 = n + 20 from a_fuel1 (by (first | with_reducible exact Nat.le_trans (by assumption) (by decide) | lia | omega)) rfl] at h'
  exact ⟨v', h'', h'⟩
noncomputable def allB (wl : List Wd) : List Wd := wl.flatMap begs
theorem allB_mem {wl : List Wd} {y : Wd} : y ∈ allB wl ↔ ∃ x ∈ wl, y <+: x := by
  unfold allB begs
  rw [List.mem_flatMap]
  refine exists_congr fun x => and_congr_right fun _ => ?_
  rw [List.mem_map, pre_take]
  exact ⟨fun ⟨k, hk, e⟩ => ⟨k, Nat.le_of_lt_succ (List.mem_range.mp hk), e.symm⟩, fun ⟨k, hk, e⟩ => ⟨k, List.mem_range.mpr (Nat.lt_succ_of_le hk), e.symm⟩⟩
noncomputable def g4o : PV → List PV
  | .str x => (begs x).map one4
  | _ => []
theorem flat_allB : ∀ wl : List Wd, (ws wl).flatMap g4o = (allB wl).map one4
  | [] => rfl
  | x :: wl => by
    show (begs x).map one4 ++ (ws wl).flatMap g4o = ((begs x) ++ allB wl).map one4
    rw [flat_allB, List.map_append]
theorem c4_go {n : Nat} {wl : List Wd} (hl : wl.length ≤ 5) (hx : ∀ x ∈ wl, x.length ≤ 3) : ∃ v, xComp T05 (n + 40) (lcSc c4) [] (lcT c4) [] (lcR c4) (lcElt c4) (ws wl) = some ((allB wl).map one4, v) := by
  obtain ⟨v', h', _⟩ := comp_inv (T := T05) (c := 21) (sc := lcSc c4) (t := lcT c4) (ifs := []) (rest := lcR c4) (elt := lcElt c4) (g := g4o) (P := fun rem v => (∃ L : List Wd, rem = ws L ∧ ∀ x ∈ L, x.length ≤ 3) ∧ Wv v) (fun y ys v m hP => by
    obtain ⟨⟨L, e, hL⟩, hv⟩ := hP
    cases L with
    | nil => cases e
    | cons x L =>
      obtain ⟨rfl, rfl⟩ := List.cons.inj e
      obtain ⟨v1, hv1, e1⟩ := c4_step (n := m + 6) (x := .str x) hv
      rw [show m + 6 + 14 = m + 20 from rfl] at e1
      obtain ⟨v2, hv2, e2⟩ := c4_inner (n := m) (hL x (.head _)) hv1
      exact ⟨v2, e1.trans (bind_go (rg_go (Nat.le_trans (hL x (.head _)) (by decide))) e2), ⟨L, rfl, fun y hy => hL y (.tail _ hy)⟩, hv2.elim (fun e => .inr (.inl ⟨_, e⟩)) fun ⟨b, e⟩ => .inr (.inr ⟨_, b, e⟩)⟩) (ws wl) [] (n + (18 - wl.length)) ⟨⟨wl, rfl, hx⟩, .inl rfl⟩
  rw [flat_allB, ws_len, show n + (18 - wl.length) + 21 + wl.length + 1 = n + 40 from a_fuel1 (by (first | with_reducible exact Nat.le_trans (by assumption) (by decide) | lia | omega)) rfl] at h'
  exact ⟨v', h'⟩
end Mine
namespace Mine
open PySem PySem.W PyProof.Rows
noncomputable def krun {α : Type} (lt : Nat → Nat → Bool) : KasT α → α
  | .ret a => a
  | .ask i j k => krun lt (k (lt i j))
theorem krun_bind {α β : Type} (lt : Nat → Nat → Bool) (f : α → KasT β) : ∀ t : KasT α, krun lt (t.bind f) = krun lt (f (krun lt t))
  | .ret _ => rfl
  | .ask i j k => krun_bind lt f (k (lt i j))
section
variable {rk : Nat → Int}
noncomputable def kv (rk : Nat → Int) (p : Array Nat) (i : Nat) : Int := rk (p.getD i 0)
noncomputable def rlt (rk : Nat → Int) (i j : Nat) : Bool := decide (rk i < rk j)
noncomputable def Up (rk : Nat → Int) (p : Array Nat) (k : Nat) : Prop := ∀ i j, i ≤ j → j < k → kv rk p i ≤ kv rk p j
noncomputable def Dn (rk : Nat → Int) (p : Array Nat) (k : Nat) : Prop := ∀ i j, i ≤ j → j < k → kv rk p j ≤ kv rk p i
theorem kv_congr {p q : Array Nat} {i j : Nat} (h : p[i]? = q[j]?) : kv rk p i = kv rk q j := by
  unfold kv; rw [Array.getD_eq_getD_getElem?, Array.getD_eq_getD_getElem?, h]
theorem kv_rev {p : Array Nat} {i j : Nat} (hj : j ≤ p.size) (k : Nat) : kv rk (kas_rev p i j) k = if i ≤ k ∧ k < j then kv rk p (i + j - 1 - k) else kv rk p k := by
  have e := getElem?_mirror_all (i := i) hj k
  by_cases h1 : i ≤ k ∧ k < j
  · rw [if_pos h1] at e ⊢; exact kv_congr e
  · rw [if_neg h1] at e ⊢; exact kv_congr e
theorem kv_bubble {p : Array Nat} {src d : Nat} (hs : src < p.size) (hd : d ≤ src) (k : Nat) :
    kv rk (bubble p src d) k = if k = src - d then kv rk p src else if src - d < k ∧ k ≤ src then kv rk p (k - 1) else kv rk p k := by
  have e := getElem?_bubble hs d hd k
  by_cases h1 : k = src - d
  · rw [if_pos h1] at e ⊢; exact kv_congr e
  · rw [if_neg h1] at e ⊢
    by_cases h2 : src - d < k ∧ k ≤ src
    · rw [if_pos h2] at e ⊢; exact kv_congr e
    · rw [if_neg h2] at e ⊢; exact kv_congr e
theorem rlt_t {p : Array Nat} {i j : Nat} (c : rlt rk (p.getD i 0) (p.getD j 0) = true) : kv rk p i < kv rk p j := of_decide_eq_true c
theorem rlt_f {p : Array Nat} {i j : Nat} (c : ¬ rlt rk (p.getD i 0) (p.getD j 0) = true) : kv rk p j ≤ kv rk p i := Int.not_lt.mp fun h => c (decide_eq_true h)
theorem rev_perm (p : Array Nat) (i j : Nat) : (kas_rev p i j).Perm p := mirror_perm _ _ _ _
theorem rev_size (p : Array Nat) (i j : Nat) : (kas_rev p i j).size = p.size := mirror_size _ _ _ _
theorem Up.snoc {p : Array Nat} {n : Nat} (h : Up rk p n) (hn : 1 ≤ n) (hl : kv rk p (n - 1) ≤ kv rk p n) : Up rk p (n + 1) := fun i j hij hj => by
  rcases Nat.lt_or_ge j n with h1 | h1
  · exact h i j hij h1
  · have : j = n := by (first | with_reducible exact Nat.le_trans (by assumption) (by decide) | lia | omega)
    subst this
    rcases Nat.lt_or_ge i j with h2 | h2
    · have := h i (j - 1) (by (first | with_reducible exact Nat.le_trans (by assumption) (by decide) | lia | omega)) (by (first | with_reducible exact Nat.le_trans (by assumption) (by decide) | lia | omega)); (first | with_reducible exact Nat.le_trans (by assumption) (by decide) | lia | omega)
    · have : i = j := by (first | with_reducible exact Nat.le_trans (by assumption) (by decide) | lia | omega)
      subst this; exact Int.le_refl _
theorem Dn.snoc {p : Array Nat} {n : Nat} (h : Dn rk p n) (hn : 1 ≤ n) (hl : kv rk p n ≤ kv rk p (n - 1)) : Dn rk p (n + 1) := fun i j hij hj => by
  rcases Nat.lt_or_ge j n with h1 | h1
  · exact h i j hij h1
  · have : j = n := by (first | with_reducible exact Nat.le_trans (by assumption) (by decide) | lia | omega)
    subst this
    rcases Nat.lt_or_ge i j with h2 | h2
    · have := h i (j - 1) (by (first | with_reducible exact Nat.le_trans (by assumption) (by decide) | lia | omega)) (by (first | with_reducible exact Nat.le_trans (by assumption) (by decide) | lia | omega)); (first | with_reducible exact Nat.le_trans (by assumption) (by decide) | lia | omega)
    · have : i = j := by (first | with_reducible exact Nat.le_trans (by assumption) (by decide) | lia | omega)
      subst this; exact Int.le_refl _
theorem asc_ok {p : Array Nat} : ∀ (f n : Nat), 1 ≤ n → Up rk p n → n ≤ krun (rlt rk) (kas_asc p f n) ∧ krun (rlt rk) (kas_asc p f n) ≤ n + f ∧ Up rk p (krun (rlt rk) (kas_asc p f n)) ∧ (krun (rlt rk) (kas_asc p f n) < n + f → kv rk p (krun (rlt rk) (kas_asc p f n)) < kv rk p (krun (rlt rk) (kas_asc p f n) - 1))
  | 0, n, _, hu => ⟨Nat.le_refl _, Nat.le_refl _, hu, fun h => absurd h (Nat.lt_irrefl _)⟩
  | f + 1, n, hn, hu => by
    have e : krun (rlt rk) (kas_asc p (f + 1) n) = krun (rlt rk) (if rlt rk (p.getD n 0) (p.getD (n - 1) 0) = true then .ret n else kas_asc p f (n + 1)) := rfl
    rw [e]
    by_cases c : rlt rk (p.getD n 0) (p.getD (n - 1) 0) = true
    · rw [if_pos c]
      exact ⟨Nat.le_refl _, by show n ≤ _; (first | with_reducible exact Nat.le_trans (by assumption) (by decide) | lia | omega), hu, fun _ => rlt_t c⟩
    · rw [if_neg c]
      have hl : kv rk p (n - 1) ≤ kv rk p n := rlt_f c
      obtain ⟨a, b, c', d⟩ := asc_ok f (n + 1) (by (first | with_reducible exact Nat.le_trans (by assumption) (by decide) | lia | omega)) (hu.snoc hn hl)
      exact ⟨by (first | with_reducible exact Nat.le_trans (by assumption) (by decide) | lia | omega), by (first | with_reducible exact Nat.le_trans (by assumption) (by decide) | lia | omega), c', fun h => d (by (first | with_reducible exact Nat.le_trans (by assumption) (by decide) | lia | omega))⟩
structure DnInv (rk : Nat → Int) (p₀ p : Array Nat) (n q : Nat) : Prop where
  perm : p.Perm p₀
  dn : Dn rk p n
  hq : q + 1 ≤ n
  eq : ∀ k, n - (q + 1) ≤ k → k < n → kv rk p k = kv rk p (n - 1)
theorem DnInv.rev {p₀ p : Array Nat} {n q : Nat} (I : DnInv rk p₀ p n q) (hz : n ≤ p.size) (k : Nat) : kv rk (kas_rev p (n - (q + 1)) n) k = kv rk p k := by
  rw [kv_rev hz]
  split
  · rename_i h
    rw [I.eq k h.1 h.2, I.eq _ (by omega) (by omega)]
  · rfl
theorem desc_ok {p₀ : Array Nat} : ∀ (f : Nat) (p : Array Nat) (n q : Nat), DnInv rk p₀ p n q → n + f ≤ p.size →
    n ≤ (krun (rlt rk) (kas_desc f p n q)).2.1 ∧ (krun (rlt rk) (kas_desc f p n q)).2.1 ≤ n + f ∧ DnInv rk p₀ (krun (rlt rk) (kas_desc f p n q)).1 (krun (rlt rk) (kas_desc f p n q)).2.1 (krun (rlt rk) (kas_desc f p n q)).2.2
  | 0, p, n, q, I, _ => ⟨Nat.le_refl _, Nat.le_refl _, I⟩
  | f + 1, p, n, q, I, hz => by
    have hn : 1 ≤ n := by have := I.hq; (first | with_reducible exact Nat.le_trans (by assumption) (by decide) | lia | omega)
    have e : krun (rlt rk) (kas_desc (f + 1) p n q) = krun (rlt rk) (if rlt rk (p.getD n 0) (p.getD (n - 1) 0) = true then (if q > 0 then kas_desc f (kas_rev p (n - (q + 1)) n) (n + 1) 0 else kas_desc f p (n + 1) 0)
      else .ask (p.getD (n - 1) 0) (p.getD n 0) fun d => if d = true then .ret (p, n, q) else kas_desc f p (n + 1) (q + 1)) := rfl
    rw [e]
    by_cases c : rlt rk (p.getD n 0) (p.getD (n - 1) 0) = true
    · rw [if_pos c]
      have hl : kv rk p n < kv rk p (n - 1) := rlt_t c
      by_cases hq : q > 0
      · rw [if_pos hq]
        have hr := I.rev (by (first | with_reducible exact Nat.le_trans (by assumption) (by decide) | lia | omega))
        have I' : DnInv rk p₀ (kas_rev p (n - (q + 1)) n) (n + 1) 0 := ⟨(rev_perm _ _ _).trans I.perm, fun i j hij hj => by rw [hr, hr]; exact (I.dn.snoc hn (by (first | with_reducible exact Nat.le_trans (by assumption) (by decide) | lia | omega))) i j hij hj, by (first | with_reducible exact Nat.le_trans (by assumption) (by decide) | lia | omega), fun k h1 h2 => by
          have : k = n := by (first | with_reducible exact Nat.le_trans (by assumption) (by decide) | lia | omega)
          subst this; rfl⟩
        obtain ⟨a, b, d⟩ := desc_ok f _ (n + 1) 0 I' (by rw [rev_size]; (first | with_reducible exact Nat.le_trans (by assumption) (by decide) | lia | omega))
        exact ⟨by (first | with_reducible exact Nat.le_trans (by assumption) (by decide) | lia | omega), by (first | with_reducible exact Nat.le_trans (by assumption) (by decide) | lia | omega), d⟩
      · rw [if_neg hq]
        have I' : DnInv rk p₀ p (n + 1) 0 := ⟨I.perm, I.dn.snoc hn (by (first | with_reducible exact Nat.le_trans (by assumption) (by decide) | lia | omega)), by (first | with_reducible exact Nat.le_trans (by assumption) (by decide) | lia | omega), fun k h1 h2 => by
          have : k = n := by (first | with_reducible exact Nat.le_trans (by assumption) (by decide) | lia | omega)
          subst this; rfl⟩
        obtain ⟨a, b, d⟩ := desc_ok f _ (n + 1) 0 I' (by (first | with_reducible exact Nat.le_trans (by assumption) (by decide) | lia | omega))
        exact ⟨by (first | with_reducible exact Nat.le_trans (by assumption) (by decide) | lia | omega), by (first | with_reducible exact Nat.le_trans (by assumption) (by decide) | lia | omega), d⟩
    · rw [if_neg c]
      have e2 : krun (rlt rk) (.ask (p.getD (n - 1) 0) (p.getD n 0) fun d => if d = true then .ret (p, n, q) else kas_desc f p (n + 1) (q + 1)) = krun (rlt rk) (if rlt rk (p.getD (n - 1) 0) (p.getD n 0) = true then .ret (p, n, q) else kas_desc f p (n + 1) (q + 1)) := rfl
      rw [e2]
      by_cases c2 : rlt rk (p.getD (n - 1) 0) (p.getD n 0) = true
      · rw [if_pos c2]
        exact ⟨Nat.le_refl _, by show n ≤ _; (first | with_reducible exact Nat.le_trans (by assumption) (by decide) | lia | omega), I⟩
      · rw [if_neg c2]
        have h1 : kv rk p (n - 1) ≤ kv rk p n := rlt_f c
        have h2 : kv rk p n ≤ kv rk p (n - 1) := rlt_f c2
        have I' : DnInv rk p₀ p (n + 1) (q + 1) := ⟨I.perm, I.dn.snoc hn h2, by have := I.hq; (first | with_reducible exact Nat.le_trans (by assumption) (by decide) | lia | omega), fun k hk1 hk2 => by
          rcases Nat.lt_or_ge k n with h | h
          · have := I.eq k (by (first | with_reducible exact Nat.le_trans (by assumption) (by decide) | lia | omega)) h
            have e3 : n + 1 - 1 = n := by (first | with_reducible exact Nat.le_trans (by assumption) (by decide) | lia | omega)
            rw [e3]; (first | with_reducible exact Nat.le_trans (by assumption) (by decide) | lia | omega)
          · have : k = n := by (first | with_reducible exact Nat.le_trans (by assumption) (by decide) | lia | omega)
            subst this; rfl⟩
        obtain ⟨a, b, d⟩ := desc_ok f _ (n + 1) (q + 1) I' (by (first | with_reducible exact Nat.le_trans (by assumption) (by decide) | lia | omega))
        exact ⟨by (first | with_reducible exact Nat.le_trans (by assumption) (by decide) | lia | omega), by (first | with_reducible exact Nat.le_trans (by assumption) (by decide) | lia | omega), d⟩
structure Beg (rk : Nat → Int) (p₀ : Array Nat) (n : Nat) (r : Nat × Array Nat) : Prop where
  perm : r.2.Perm p₀
  lo : 1 ≤ r.1
  hi : r.1 ≤ n
  up : Up rk r.2 r.1
theorem tail3_ok {p₀ p : Array Nat} {n nrem : Nat} (hp : p.Perm p₀) (hd : Dn rk p n) (h1 : 1 ≤ n) (hn : n ≤ nrem) (hz : nrem ≤ p.size) : Beg rk p₀ nrem (krun (rlt rk) (kas_tail3 n nrem p)) := by
  unfold kas_tail3
  rw [krun_bind]
  have hu : Up rk (kas_rev p 0 n) n := fun i j hij hj => by
    rw [kv_rev (Nat.le_trans hn hz), kv_rev (Nat.le_trans hn hz), if_pos ⟨Nat.zero_le _, Nat.lt_of_le_of_lt hij hj⟩, if_pos ⟨Nat.zero_le _, hj⟩]
    exact hd _ _ (a_mir hij) (a_mir2 h1)
  obtain ⟨a, b, c, _⟩ := asc_ok (p := kas_rev p 0 n) (nrem - n) n h1 hu
  exact ⟨(rev_perm _ _ _).trans hp, Nat.le_trans h1 a, Nat.le_trans b (Nat.le_of_eq (Nat.add_sub_cancel' hn)), c⟩
theorem descPart_ok {p₀ p : Array Nat} {n nrem : Nat} (hp : p.Perm p₀) (hd : Dn rk p (n + 1)) (h1 : 1 ≤ n) (hn : n + 1 ≤ nrem) (hz : nrem ≤ p.size) : Beg rk p₀ nrem (krun (rlt rk) (kas_descPart n nrem p)) := by
  unfold kas_descPart
  rw [krun_bind]
  have I : DnInv rk p₀ p (n + 1) 0 := ⟨hp, hd, Nat.succ_le_succ (Nat.zero_le n), fun k h1 h2 => by
    have : k = n := Nat.le_antisymm (Nat.le_of_lt_succ h2) h1
    subst this; rfl⟩
  obtain ⟨a, b, d⟩ := desc_ok (nrem - (n + 1)) p (n + 1) 0 I (Nat.le_trans (Nat.le_of_eq (Nat.add_sub_cancel' hn)) hz)
  generalize krun (rlt rk) (kas_desc (nrem - (n + 1)) p (n + 1) 0) = r at *
  have hzr : r.1.size = p.size := d.perm.size_eq.trans hp.size_eq.symm
  have hb := Nat.le_trans b (Nat.le_of_eq (Nat.add_sub_cancel' hn))
  have ha := Nat.le_trans (Nat.succ_le_succ (Nat.zero_le n)) a
  have hs := Nat.le_trans hz (Nat.le_of_eq hzr.symm)
  split
  · have hr := d.rev (Nat.le_trans hb hs)
    exact tail3_ok ((rev_perm _ _ _).trans d.perm) (fun i j hij hj => by rw [hr, hr]; exact d.dn i j hij hj) ha hb (by rw [rev_size]; exact hs)
  · exact tail3_ok d.perm d.dn ha hb hs
theorem count_ok {p : Array Nat} {nrem : Nat} (h1 : 1 ≤ nrem) (hz : nrem ≤ p.size) : Beg rk p nrem (krun (rlt rk) (kas_count nrem p)) := by
  unfold kas_count
  rw [krun_bind]
  obtain ⟨a, b, c, d⟩ := asc_ok (rk := rk) (p := p) (nrem - 1) 1 (Nat.le_refl 1) (fun i j hij hj => by
    have : i = j := by (first | with_reducible exact Nat.le_trans (by assumption) (by decide) | lia | omega)
    subst this; exact Int.le_refl _)
  generalize krun (rlt rk) (kas_asc p (nrem - 1) 1) = n at *
  by_cases e1 : (n == nrem) = true
  · rw [if_pos e1]
    exact ⟨Array.Perm.refl _, a, by show n ≤ _; (first | with_reducible exact Nat.le_trans (by assumption) (by decide) | lia | omega), c⟩
  · rw [if_neg e1]
    have hlt : n < nrem := by
      have : n ≠ nrem := fun q => e1 (by rw [q]; exact beq_self_eq_true _)
      (first | with_reducible exact Nat.le_trans (by assumption) (by decide) | lia | omega)
    have hd := d (by (first | with_reducible exact Nat.le_trans (by assumption) (by decide) | lia | omega))
    by_cases e2 : n > 1
    · rw [if_pos e2]
      have e3 : krun (rlt rk) (.ask (p.getD 0 0) (p.getD (n - 1) 0) fun c => if c = true then .ret (n, p) else kas_descPart n nrem (kas_rev p 0 n)) = krun (rlt rk) (if rlt rk (p.getD 0 0) (p.getD (n - 1) 0) = true then .ret (n, p) else kas_descPart n nrem (kas_rev p 0 n)) := rfl
      rw [e3]
      by_cases c2 : rlt rk (p.getD 0 0) (p.getD (n - 1) 0) = true
      · rw [if_pos c2]
        exact ⟨Array.Perm.refl _, a, by show n ≤ _; (first | with_reducible exact Nat.le_trans (by assumption) (by decide) | lia | omega), c⟩
      · rw [if_neg c2]
        have h2 : kv rk p (n - 1) ≤ kv rk p 0 := rlt_f c2
        have all : ∀ k, k < n → kv rk p k = kv rk p 0 := fun k hk => by
          have x := c 0 k (by (first | with_reducible exact Nat.le_trans (by assumption) (by decide) | lia | omega)) hk
          have y := c k (n - 1) (by (first | with_reducible exact Nat.le_trans (by assumption) (by decide) | lia | omega)) (by (first | with_reducible exact Nat.le_trans (by assumption) (by decide) | lia | omega))
          (first | with_reducible exact Nat.le_trans (by assumption) (by decide) | lia | omega)
        refine descPart_ok (rev_perm _ _ _) (fun i j hij hj => ?_) a hlt (by rw [rev_size]; exact hz)
        have val : ∀ k, k < n → kv rk (kas_rev p 0 n) k = kv rk p 0 := fun k hk => by
          rw [kv_rev (by (first | with_reducible exact Nat.le_trans (by assumption) (by decide) | lia | omega)), if_pos (by (first | with_reducible exact Nat.le_trans (by assumption) (by decide) | lia | omega)), all _ (by (first | with_reducible exact Nat.le_trans (by assumption) (by decide) | lia | omega))]
        have last : kv rk (kas_rev p 0 n) n = kv rk p n := by rw [kv_rev (by (first | with_reducible exact Nat.le_trans (by assumption) (by decide) | lia | omega)), if_neg (by (first | with_reducible exact Nat.le_trans (by assumption) (by decide) | lia | omega))]
        rcases Nat.lt_or_ge j n with h | h
        · rw [val j h, val i (by (first | with_reducible exact Nat.le_trans (by assumption) (by decide) | lia | omega))]; exact Int.le_refl _
        · have : j = n := by (first | with_reducible exact Nat.le_trans (by assumption) (by decide) | lia | omega)
          subst this
          rcases Nat.lt_or_ge i j with h' | h'
          · rw [last, val i h']
            have := all (j - 1) (by (first | with_reducible exact Nat.le_trans (by assumption) (by decide) | lia | omega))
            (first | with_reducible exact Nat.le_trans (by assumption) (by decide) | lia | omega)
          · have : i = j := by (first | with_reducible exact Nat.le_trans (by assumption) (by decide) | lia | omega)
            subst this; exact Int.le_refl _
    · rw [if_neg e2]
      have : n = 1 := by (first | with_reducible exact Nat.le_trans (by assumption) (by decide) | lia | omega)
      subst this
      refine descPart_ok (Array.Perm.refl _) (fun i j hij hj => ?_) (Nat.le_refl _) hlt hz
      rcases Nat.eq_zero_or_pos j with h | h
      · have : i = 0 := by (first | with_reducible exact Nat.le_trans (by assumption) (by decide) | lia | omega)
        subst this; subst h; exact Int.le_refl _
      · have : j = 1 := by (first | with_reducible exact Nat.le_trans (by assumption) (by decide) | lia | omega)
        subst this
        rcases Nat.eq_zero_or_pos i with h' | h'
        · subst h'; have e : (1 : Nat) - 1 = 0 := rfl
          rw [e] at hd; (first | with_reducible exact Nat.le_trans (by assumption) (by decide) | lia | omega)
        · have : i = 1 := by (first | with_reducible exact Nat.le_trans (by assumption) (by decide) | lia | omega)
          subst this; exact Int.le_refl _
theorem place_ok {p : Array Nat} {k : Nat} (hu : Up rk p k) : ∀ (f l r : Nat), l ≤ r → r ≤ k → r - l ≤ f → (∀ i, i < l → kv rk p i ≤ kv rk p k) → (∀ i, r ≤ i → i < k → kv rk p k < kv rk p i) →
    krun (rlt rk) (kas_place p k f l r) ≤ k ∧ (∀ i, i < krun (rlt rk) (kas_place p k f l r) → kv rk p i ≤ kv rk p k) ∧ (∀ i, krun (rlt rk) (kas_place p k f l r) ≤ i → i < k → kv rk p k < kv rk p i)
  | 0, l, r, h1, h2, h3, lo, hi => by
    have : l = r := Nat.le_antisymm h1 (Nat.sub_eq_zero_iff_le.mp (Nat.le_zero.mp h3))
    subst this; exact ⟨h2, lo, hi⟩
  | f + 1, l, r, h1, h2, h3, lo, hi => by
    unfold kas_place
    by_cases hlr : l ≥ r
    · rw [if_pos hlr]
      have : l = r := Nat.le_antisymm h1 hlr
      subst this; exact ⟨h2, lo, hi⟩
    · rw [if_neg hlr]
      have hlr' : l < r := Nat.lt_of_not_le hlr
      have e : krun (rlt rk) (.ask (p.getD k 0) (p.getD ((l + r) / 2) 0) fun c => if c = true then kas_place p k f l ((l + r) / 2) else kas_place p k f ((l + r) / 2 + 1) r) = krun (rlt rk) (if rlt rk (p.getD k 0) (p.getD ((l + r) / 2) 0) = true then kas_place p k f l ((l + r) / 2) else kas_place p k f ((l + r) / 2 + 1) r) := rfl
      rw [e]
      by_cases c : rlt rk (p.getD k 0) (p.getD ((l + r) / 2) 0) = true
      · rw [if_pos c]
        have hc : kv rk p k < kv rk p ((l + r) / 2) := rlt_t c
        exact place_ok hu f l _ (a_mid1 h1) (Nat.le_trans (Nat.le_of_lt (a_mid2 hlr')) h2) (a_le (a_dn hlr') h3) lo fun i h4 h5 => Int.lt_of_lt_of_le hc (hu _ i h4 h5)
      · rw [if_neg c]
        have hc : kv rk p ((l + r) / 2) ≤ kv rk p k := rlt_f c
        exact place_ok hu f _ r (a_mid2 hlr') h2 (a_le (a_up hlr') h3) (fun i h4 => Int.le_trans (hu i _ (Nat.le_of_lt_succ h4) (Nat.lt_of_lt_of_le (a_mid2 hlr') h2)) hc) hi
theorem bin_ok {p₀ : Array Nat} : ∀ (f : Nat) (p : Array Nat) (k : Nat), p.Perm p₀ → Up rk p k → k + f ≤ p.size → (krun (rlt rk) (kas_bin f p k)).Perm p₀ ∧ Up rk (krun (rlt rk) (kas_bin f p k)) (k + f)
  | 0, p, k, hp, hu, _ => ⟨hp, hu⟩
  | f + 1, p, k, hp, hu, hz => by
    have e : krun (rlt rk) (kas_bin (f + 1) p k) = krun (rlt rk) (kas_bin f (bubble p k (k - krun (rlt rk) (kas_place p k k 0 k))) (k + 1)) := by
      show krun (rlt rk) ((kas_place p k k 0 k).bind fun l => kas_bin f (bubble p k (k - l)) (k + 1)) = _
      rw [krun_bind]
    rw [e]
    obtain ⟨a, b, c⟩ := place_ok hu k 0 k (Nat.zero_le _) (Nat.le_refl _) (Nat.sub_le _ _) (fun i h => absurd h (Nat.not_lt_zero _)) (fun i h h' => absurd h (Nat.not_le_of_lt h'))
    generalize krun (rlt rk) (kas_place p k k 0 k) = l at *
    have kb : ∀ i, kv rk (bubble p k (k - l)) i = if i = l then kv rk p k else if l < i ∧ i ≤ k then kv rk p (i - 1) else kv rk p i := fun i => by
      rw [kv_bubble (Nat.lt_of_lt_of_le (Nat.lt_add_of_pos_right (Nat.succ_pos f)) hz) (Nat.sub_le _ _)]
      have e : k - (k - l) = l := Nat.sub_sub_self a
      rw [e]
    have hu' : Up rk (bubble p k (k - l)) (k + 1) := fun i j hij hj => by
      rw [kb, kb]
      repeat' split
      all_goals first
        | exact Int.le_refl _
        | (exfalso; (first | with_reducible exact Nat.le_trans (by assumption) (by decide) | lia | omega))
        | (refine hu _ _ (by (first | with_reducible exact Nat.le_trans (by assumption) (by decide) | lia | omega)) (by (first | with_reducible exact Nat.le_trans (by assumption) (by decide) | lia | omega)))
        | (refine b _ (by (first | with_reducible exact Nat.le_trans (by assumption) (by decide) | lia | omega)))
        | (refine Int.le_of_lt (c _ (by (first | with_reducible exact Nat.le_trans (by assumption) (by decide) | lia | omega)) (by (first | with_reducible exact Nat.le_trans (by assumption) (by decide) | lia | omega))))
        | (refine Int.le_trans (b _ (by (first | with_reducible exact Nat.le_trans (by assumption) (by decide) | lia | omega))) (Int.le_of_lt (c _ (by (first | with_reducible exact Nat.le_trans (by assumption) (by decide) | lia | omega)) (by (first | with_reducible exact Nat.le_trans (by assumption) (by decide) | lia | omega)))))
    obtain ⟨x, y⟩ := bin_ok f _ (k + 1) ((bubble_perm _ _ _).trans hp) hu' (by rw [bubble_size, Nat.add_right_comm]; exact hz)
    exact ⟨x, by have e : k + (f + 1) = k + 1 + f := (Nat.add_right_comm k 1 f).symm
                 rw [e]; exact y⟩
theorem sort_ok {n : Nat} (hn : 1 ≤ n) : (krun (rlt rk) (kas_sort n)).Perm (List.range n).toArray ∧ Up rk (krun (rlt rk) (kas_sort n)) n := by
  unfold kas_sort
  rw [krun_bind]
  have B := count_ok (rk := rk) (p := (List.range n).toArray) (nrem := n) hn (by simp)
  generalize krun (rlt rk) (kas_count n (List.range n).toArray) = r at *
  have hz : r.2.size = n := by have := B.perm.size_eq; simpa using this
  have e : max r.1 1 = r.1 := by have := B.lo; (first | with_reducible exact Nat.le_trans (by assumption) (by decide) | lia | omega)
  split
  · rename_i h
    rw [e]
    have e2 : r.1 + (n - r.1) = n := by (first | with_reducible exact Nat.le_trans (by assumption) (by decide) | lia | omega)
    have := bin_ok (n - r.1) r.2 r.1 B.perm B.up (by (first | with_reducible exact Nat.le_trans (by assumption) (by decide) | lia | omega))
    rw [e2] at this; exact this
  · rename_i h
    have : r.1 = n := by have := B.hi; (first | with_reducible exact Nat.le_trans (by assumption) (by decide) | lia | omega)
    refine ⟨B.perm, ?_⟩
    have u := B.up
    rw [this] at u; exact u
end
end Mine
namespace Mine
open PySem PySem.W PyProof.Rows
inductive OkT {α : Type} (n : Nat) (R : α → Prop) : KasT α → Prop
  | ret {a : α} (h : R a) : OkT n R (.ret a)
  | ask {i j : Nat} {k : Bool → KasT α} (hi : i < n) (hj : j < n) (h : ∀ b, OkT n R (k b)) : OkT n R (.ask i j k)
theorem OkT.bind {α β : Type} {n : Nat} {R : α → Prop} {S : β → Prop} {f : α → KasT β} {t : KasT α} (h : OkT n R t) (hf : ∀ a, R a → OkT n S (f a)) : OkT n S (t.bind f) := by
  induction h with
  | ret h => exact hf _ h
  | ask hi hj _ ih => exact .ask hi hj ih
noncomputable def Bd (n : Nat) (p : Array Nat) : Prop := ∀ x ∈ p.toList, x < n
theorem Bd.get {n : Nat} {p : Array Nat} (h : Bd n p) (hn : 0 < n) (i : Nat) : p.getD i 0 < n := by
  rw [Array.getD_eq_getD_getElem?]
  cases q : p[i]? with
  | none => exact hn
  | some x => exact h x (List.mem_iff_getElem?.mpr ⟨i, by simpa using q⟩)
theorem Bd.perm {n : Nat} {p q : Array Nat} (h : Bd n p) (e : q.Perm p) : Bd n q := fun x hx => h x ((Array.perm_iff_toList_perm.mp e).mem_iff.mp hx)
section
variable {n : Nat}
theorem asc_T (hn : 0 < n) {p : Array Nat} (hp : Bd n p) : ∀ (f m : Nat), OkT n (fun _ => True) (kas_asc p f m)
  | 0, m => .ret trivial
  | f + 1, m => .ask (hp.get hn _) (hp.get hn _) fun b => by
    cases b with
    | true => exact .ret trivial
    | false => exact asc_T hn hp f (m + 1)
theorem desc_T (hn : 0 < n) : ∀ (f : Nat) (p : Array Nat) (m q : Nat), Bd n p → OkT n (fun r => Bd n r.1) (kas_desc f p m q)
  | 0, p, m, q, hp => .ret hp
  | f + 1, p, m, q, hp => .ask (hp.get hn _) (hp.get hn _) fun b => by
    cases b with
    | true =>
      simp only [if_true]
      split
      · exact desc_T hn f _ _ _ (hp.perm (rev_perm _ _ _))
      · exact desc_T hn f _ _ _ hp
    | false =>
      simp only [Bool.false_eq_true, if_false]
      refine .ask (hp.get hn _) (hp.get hn _) fun b => ?_
      cases b with
      | true => exact .ret hp
      | false => exact desc_T hn f _ _ _ hp
theorem tail3_T (hn : 0 < n) {p : Array Nat} (hp : Bd n p) (m nrem : Nat) : OkT n (fun r => Bd n r.2) (kas_tail3 m nrem p) :=
  (asc_T hn (hp.perm (rev_perm _ _ _)) _ _).bind fun _ _ => .ret (hp.perm (rev_perm _ _ _))
theorem descPart_T (hn : 0 < n) {p : Array Nat} (hp : Bd n p) (m nrem : Nat) : OkT n (fun r => Bd n r.2) (kas_descPart m nrem p) :=
  (desc_T hn _ _ _ _ hp).bind fun r hr => by
    split
    · exact tail3_T hn (Bd.perm hr (rev_perm _ _ _)) _ _
    · exact tail3_T hn hr _ _
theorem count_T (hn : 0 < n) {p : Array Nat} (hp : Bd n p) (nrem : Nat) : OkT n (fun r => Bd n r.2) (kas_count nrem p) :=
  (asc_T hn hp _ _).bind fun m _ => by
    split
    · exact .ret hp
    · split
      · refine .ask (hp.get hn _) (hp.get hn _) fun b => ?_
        cases b with
        | true => exact .ret hp
        | false => exact descPart_T hn (hp.perm (rev_perm _ _ _)) _ _
      · exact descPart_T hn hp _ _
theorem place_T (hn : 0 < n) {p : Array Nat} (hp : Bd n p) (k : Nat) : ∀ (f l r : Nat), OkT n (fun _ => True) (kas_place p k f l r)
  | 0, l, r => .ret trivial
  | f + 1, l, r => by
    unfold kas_place
    split
    · exact .ret trivial
    · refine .ask (hp.get hn _) (hp.get hn _) fun b => ?_
      cases b with
      | true => exact place_T hn hp k f _ _
      | false => exact place_T hn hp k f _ _
theorem bin_T (hn : 0 < n) : ∀ (f : Nat) (p : Array Nat) (k : Nat), Bd n p → OkT n (fun _ => True) (kas_bin f p k)
  | 0, p, k, hp => .ret trivial
  | f + 1, p, k, hp => (place_T hn hp k _ _ _).bind fun l _ => bin_T hn f _ _ (hp.perm (bubble_perm _ _ _))
theorem sort_T (hn : 0 < n) : OkT n (fun _ => True) (kas_sort n) := by
  have hp : Bd n (List.toArray (List.range n)) := fun x hx => by simpa using hx
  refine (count_T hn hp n).bind fun r hr => ?_
  split
  · exact bin_T hn _ _ _ hr
  · exact .ret trivial
end
theorem sorted_one {α : Type} {l r : List α} {rank : α → Int} (hp : l.Perm r) (hl : l.Pairwise fun x y => rank x ≤ rank y) (hr : r.Pairwise fun x y => rank x ≤ rank y) (hi : ∀ x ∈ r, ∀ y ∈ r, rank x = rank y → x = y) : l = r :=
  List.Perm.eq_of_pairwise (fun a b ha hb h1 h2 => hi a (hp.mem_iff.mp ha) b hb (by (first | with_reducible exact Nat.le_trans (by assumption) (by decide) | lia | omega))) hl hr hp
end Mine
namespace Mine
open PySem PySem.W
theorem krunO_eq {α : Type} {n : Nat} {R : α → Prop} {lt : Nat → Nat → Option Bool} {lt' : Nat → Nat → Bool} (h : ∀ i j, i < n → j < n → lt i j = some (lt' i j)) {t : KasT α} (ok : OkT n R t) : krunO lt t = some (krun lt' t) := by
  induction ok with
  | ret _ => rfl
  | ask hi hj _ ih => exact bind_go (h _ _ hi hj) (ih _)
theorem up_pair {n : Nat} {rk : Nat → Int} {p : Array Nat} (hu : Up rk p n) (hz : p.size = n) : p.toList.Pairwise fun i j => rk i ≤ rk j := by
  rw [List.pairwise_iff_getElem]
  intro i j hi hj hij
  have := hu i j (by (first | with_reducible exact Nat.le_trans (by assumption) (by decide) | lia | omega)) (by simpa [hz] using hj)
  unfold kv at this
  have h1 : p.getD i 0 = p.toList[i] := by simp at hi; simp [Array.getD, hi]
  have h2 : p.getD j 0 = p.toList[j] := by simp at hj; simp [Array.getD, hj]
  rw [h1, h2] at this; exact this
noncomputable def ones (K : List Wd) : List PV := K.map fun _ => .int 1
theorem addW_cons {z y : Wd} (K : List Wd) (h : z ≠ y) : addW (z :: K) y = z :: addW K y := by
  unfold addW
  rw [List.cons_append]
  by_cases q : y ∈ K
  · rw [if_pos q, if_pos (.tail _ q)]
  · rw [if_neg q, if_neg fun m => (List.mem_cons.mp m).elim (fun e => h e.symm) q]
theorem addW_in {y : Wd} {K : List Wd} (h : y ∈ K) : addW K y = K := by unfold addW; rw [if_pos h, List.append_nil]
theorem putW (y : Wd) : ∀ K : List Wd, putD2 (.str y) (.int 1) (ws K) (ones K) = some (ws (addW K y), ones (addW K y))
  | [] => rfl
  | z :: K => by
    have e : PV.eq (.str z) (.str y) = some (z == y) := by kernel_rfl
    show (match PV.eq (.str z) (.str y) with
      | some true => some (PV.str z :: ws K, PV.int 1 :: ones K)
      | some false => (putD2 (.str y) (.int 1) (ws K) (ones K)).map fun (q : List PV × List PV) => (PV.str z :: q.1, [PV.int 1] ++ q.2)
      | Option.none => Option.none) = _
    rw [e]
    by_cases h : z = y
    · rw [beq_iff_eq.mpr h, addW_in (h ▸ List.mem_cons_self ..)]; rfl
    · rw [beq_eq_false_iff_ne.mpr h, putW y K, addW_cons K h]; rfl
theorem mem_addW {K : List Wd} {y z : Wd} : z ∈ addW K y ↔ z ∈ K ∨ z = y := by
  unfold addW
  rw [List.mem_append]
  by_cases h : y ∈ K
  · rw [if_pos h]; exact ⟨fun q => q.elim .inl fun q => (nomatch q), fun q => q.elim .inl fun e => .inl (e ▸ h)⟩
  · rw [if_neg h, List.mem_singleton]
theorem nodup_addW {K : List Wd} {y : Wd} (h : K.Nodup) : (addW K y).Nodup := by
  by_cases q : y ∈ K
  · rw [addW_in q]; exact h
  · unfold addW
    rw [if_neg q]
    exact List.nodup_append.mpr ⟨h, List.nodup_cons.mpr ⟨List.not_mem_nil, List.nodup_nil⟩, fun a ha b hb => by rw [List.mem_singleton.mp hb]; rintro rfl; exact q ha⟩
noncomputable def dedW (K ys : List Wd) : List Wd := ys.foldl addW K
theorem ded_mem {z : Wd} : ∀ {ys K : List Wd}, z ∈ dedW K ys ↔ z ∈ K ∨ z ∈ ys
  | [], K => ⟨.inl, fun h => h.elim id fun q => (nomatch q)⟩
  | y :: ys, K => by
    show z ∈ dedW (addW K y) ys ↔ _
    rw [ded_mem, mem_addW, List.mem_cons, or_assoc]
theorem ded_nodup : ∀ {ys K : List Wd}, K.Nodup → (dedW K ys).Nodup
  | [], _, h => h
  | _ :: ys, _, h => ded_nodup (ys := ys) (nodup_addW h)
theorem dict_words : ∀ (ys K : List Wd), K.length + ys.length ≤ 1000 → dictL (ys.map one4) (ws K) (ones K) = some (ws (dedW K ys), ones (dedW K ys))
  | [], K, _ => rfl
  | y :: ys, K, h => by
    rw [List.length_cons] at h
    have c : (keyP (.str y) && (PV.int 1).imm && szOk (ws K).length) = true := by
      rw [show szOk (ws K).length = true from decide_eq_true (by rw [ws_len]; (first | with_reducible exact Nat.le_trans (by assumption) (by decide) | lia | omega))]; rfl
    show (bif (keyP (.str y) && (PV.int 1).imm && szOk (ws K).length) then (putD2 (.str y) (.int 1) (ws K) (ones K)).bind fun p => dictL (ys.map one4) p.1 p.2 else none) = _
    rw [c, putW]
    have := addW_len K y
    exact dict_words ys (addW K y) (by (first | with_reducible exact Nat.le_trans (by assumption) (by decide) | lia | omega))
theorem allB_len : ∀ wl : List Wd, (∀ x ∈ wl, x.length ≤ 3) → (allB wl).length ≤ 4 * wl.length
  | [], _ => Nat.le_refl _
  | x :: wl, h => by
    show (begs x ++ allB wl).length ≤ _
    have h1 := allB_len wl fun y hy => h y (.tail _ hy)
    have h2 := h x (.head _)
    rw [List.length_append, List.length_cons]
    unfold begs
    rw [List.length_map, List.length_range]
    (first | with_reducible exact Nat.le_trans (by assumption) (by decide) | lia | omega)
noncomputable def rkW : List Wd → Wd → Nat
  | [], _ => 0
  | x :: r, a => if x = a then 0 else rkW r a + 1
theorem rkW_at : ∀ {o : List Wd} {k : Nat} {a : Wd}, o.Nodup → o[k]? = some a → rkW o a = k
  | [], k, a, _, h => by simp at h
  | x :: r, 0, a, _, h => by
    have : x = a := by simpa using h
    unfold rkW; rw [if_pos this]
  | x :: r, k + 1, a, hn, h => by
    rw [List.nodup_cons] at hn
    have h' : r[k]? = some a := by simpa using h
    unfold rkW
    have hx : x ≠ a := fun e => hn.1 (by rw [e]; exact List.mem_of_getElem? h')
    rw [if_neg hx, rkW_at hn.2 h']
theorem Up5.nodup {o : List Wd} (U : Up5 o) : o.Nodup := U.imp fun h e => by rw [e, nl_irr] at h; cases h
theorem Up5.lt {o : List Wd} (U : Up5 o) {i j : Nat} {a b : Wd} (hi : o[i]? = some a) (hj : o[j]? = some b) (h : i < j) : natsLt a b = true := by
  obtain ⟨h1, rfl⟩ := List.getElem?_eq_some_iff.mp hi
  obtain ⟨h2, rfl⟩ := List.getElem?_eq_some_iff.mp hj
  exact List.pairwise_iff_getElem.mp U i j h1 h2 h
theorem Up5.cmp {o : List Wd} (U : Up5 o) {x y : Wd} (hx : x ∈ o) (hy : y ∈ o) : natsLt x y = decide (rkW o x < rkW o y) := by
  obtain ⟨i, hi⟩ := List.mem_iff_getElem?.mp hx
  obtain ⟨j, hj⟩ := List.mem_iff_getElem?.mp hy
  rw [rkW_at U.nodup hi, rkW_at U.nodup hj]
  rcases Nat.lt_trichotomy i j with c | c | c
  · rw [U.lt hi hj c, decide_eq_true c]
  · rw [c, hj] at hi
    rw [Option.some.inj hi, nl_irr, decide_eq_false (c ▸ Nat.lt_irrefl _)]
  · rw [nl_asymm (U.lt hj hi c), decide_eq_false (Nat.lt_asymm c)]
theorem sort_words {K o : List Wd} (U : Up5 o) (hK : K.Nodup) (hm : ∀ y, y ∈ K ↔ y ∈ o) (h2 : 2 ≤ K.length) (hl : K.length ≤ 60) : sortP (ws K) = some (.list (ws o)) := by
  have hp : K.Perm o := (List.perm_ext_iff_of_nodup hK U.nodup).mpr hm
  have hat : ∀ {i}, i < K.length → (ws K)[i]? = some (.str (K.getD i [])) := fun {i} hi => by
    unfold ws
    rw [List.getElem?_map, List.getElem?_eq_getElem hi, List.getD_eq_getElem?_getD, List.getElem?_eq_getElem hi]; rfl
  have hin : ∀ {i}, i < K.length → K.getD i [] ∈ o := fun {i} hi => (hm _).mp (by rw [List.getD_eq_getElem?_getD, List.getElem?_eq_getElem hi]; exact List.getElem_mem hi)
  have hkind : kindOk (ws K) = true := by
    have : (ws K).all isStrP = true := by
      unfold ws
      rw [List.all_map, List.all_eq_true]
      intro i _; rfl
    unfold kindOk
    rw [this] <;> rfl
  have hask : ∀ i j, i < K.length → j < K.length → askP (ws K) i j = some (rlt (fun a => (rkW o (K.getD a []) : Int)) i j) := fun i j hi hj => by
    refine bind_go (hat hi) (bind_go (hat hj) ?_)
    rw [str_lt, U.cmp (hin hi) (hin hj)]
    exact congrArg some (decide_eq_decide.mpr Int.ofNat_lt.symm)
  obtain ⟨sp, su⟩ := sort_ok (rk := fun a => (rkW o (K.getD a []) : Int)) (n := K.length) (by (first | with_reducible exact Nat.le_trans (by assumption) (by decide) | lia | omega))
  have ho : orderP (ws K) = some (krun (rlt fun a => (rkW o (K.getD a []) : Int)) (kas_sort K.length)).toList := by
    unfold orderP
    rw [ws_len, if_neg (by (first | with_reducible exact Nat.le_trans (by assumption) (by decide) | lia | omega)), if_pos hkind]
    exact bind_go (krunO_eq hask (sort_T (by (first | with_reducible exact Nat.le_trans (by assumption) (by decide) | lia | omega)))) rfl
  generalize krun (rlt fun a => (rkW o (K.getD a []) : Int)) (kas_sort K.length) = p at sp su ho
  have hsz : p.size = K.length := by have := sp.size_eq; simpa using this
  have hpl : p.toList.Perm (List.range K.length) := by simpa using Array.perm_iff_toList_perm.mp sp
  have hmap : (List.range K.length).map (fun i => K.getD i []) = K := by
    refine List.ext_getElem? fun i => ?_
    rw [List.getElem?_map]
    by_cases hi : i < K.length
    · rw [List.getElem?_range hi, List.getElem?_eq_getElem hi]
      show some (K.getD i []) = _
      rw [List.getD_eq_getElem?_getD, List.getElem?_eq_getElem hi]; rfl
    · rw [List.getElem?_eq_none (by rw [List.length_range]; (first | with_reducible exact Nat.le_trans (by assumption) (by decide) | lia | omega)), List.getElem?_eq_none (by (first | with_reducible exact Nat.le_trans (by assumption) (by decide) | lia | omega))]; rfl
  have hperm : (p.toList.map fun i => K.getD i []).Perm o := by
    have := hpl.map fun i => K.getD i []
    rw [hmap] at this
    exact this.trans hp
  have heq : (p.toList.map fun i => K.getD i []) = o := by
    refine sorted_one (rank := fun x => (rkW o x : Int)) hperm (List.pairwise_map.mpr (up_pair su hsz)) ?_ ?_
    · rw [List.pairwise_iff_getElem]
      intro i j hi hj hij
      rw [rkW_at U.nodup (List.getElem?_eq_getElem hi), rkW_at U.nodup (List.getElem?_eq_getElem hj)]
      exact Int.ofNat_le.mpr (Nat.le_of_lt hij)
    · intro x hx y hy e
      obtain ⟨i, hi⟩ := List.mem_iff_getElem?.mp hx
      obtain ⟨j, hj⟩ := List.mem_iff_getElem?.mp hy
      rw [rkW_at U.nodup hi, rkW_at U.nodup hj] at e
      rw [Int.ofNat.inj e, hj] at hi
      exact (Option.some.inj hi).symm
  unfold sortP
  rw [ws_imms, ws_len, decide_eq_true (show K.length < 64 by (first | with_reducible exact Nat.le_trans (by assumption) (by decide) | lia | omega))]
  refine (if_pos rfl).trans (bind_go ho (congrArg (fun l => some (PV.list l)) ?_))
  rw [← heq]
  unfold ws
  rw [List.map_map]
  refine List.map_congr_left fun i hi => ?_
  have hi' : i < K.length := List.mem_range.mp (hpl.mem_iff.mp hi)
  rw [List.getD_eq_getElem?_getD]
  exact congrArg (·.getD .none) (hat hi')
end Mine
namespace Mine
open PySem
theorem two_le {α : Type} {l : List α} {x y : α} (hx : x ∈ l) (hy : y ∈ l) (h : x ≠ y) : 2 ≤ l.length := by
  match l, hx, hy with
  | [a], hx, hy => exact absurd ((List.mem_singleton.mp hx).trans (List.mem_singleton.mp hy).symm) h
  | a :: b :: _, _, _ => exact Nat.le_add_left 2 _
theorem str_self (w : Wd) : eqN 5 (.str w) (.str w) = some true := by
  have e : eqN 5 (.str w) (.str w) = some (w == w) := by kernel_rfl
  rw [e, beq_self_eq_true]
theorem ws_self (o : List Wd) : evalCmp .NotEq (.list (ws o)) (.list (ws o)) = some false := ne_false (eq_list_self fun x hx => by
  obtain ⟨w, _, rfl⟩ := List.mem_map.mp hx
  exact str_self w)
theorem st4 {n : Nat} {L a b t : PV} {wl o : List Wd} (K : Wk wl) (hn : wl ≠ []) (hl : wl.length ≤ 5) (G : Bgs wl o) : xS T05 (n + 60) fW.scope (S3 L (.list (ws wl)) a b t (.list (ws o)) []) (bW 4) = some (.next (S3 L (.list (ws wl)) a b t (.list (ws o)) [])) := by
  have hx : ∀ x ∈ wl, x.length ≤ 3 := fun x h => (K.ok x h).2
  obtain ⟨v, e⟩ := c4_go (n := n + 12) hl hx
  have hlen := allB_len wl hx
  have hd := dict_words (allB wl) [] (by rw [List.length_nil]; (first | with_reducible exact Nat.le_trans (by assumption) (by decide) | lia | omega))
  have hm : ∀ y, y ∈ dedW [] (allB wl) ↔ y ∈ o := fun y => by
    rw [ded_mem, G.mem y, allB_mem]
    exact ⟨fun h => h.elim (fun q => (nomatch q)) id, .inr⟩
  have hnd : (dedW [] (allB wl)).Nodup := ded_nodup List.nodup_nil
  have hp : (dedW [] (allB wl)).Perm o := (List.perm_ext_iff_of_nodup hnd G.up.nodup).mpr hm
  have h2 : 2 ≤ (dedW [] (allB wl)).length := by
    cases wl with
    | nil => exact absurd rfl hn
    | cons x r =>
      exact two_le ((hm []).mpr (G.beg hn).nil) ((hm x).mpr ((G.mem x).mpr ⟨x, .head _, List.prefix_refl _⟩)) (Ne.symm (K.ok x (.head _)).1)
  have hs := sort_words G.up hnd hm h2 (by rw [hp.length_eq]; exact Nat.le_trans G.len (by decide))
  refine (la_4 (n := n + 40)).trans (ifB_f ?_ rfl)
  have e1 : biV .dict (true, .list ((allB wl).map one4)) = some (.dict (ws (dedW [] (allB wl))) (ones (dedW [] (allB wl)))) := by
    show (dictL ((allB wl).map one4) (ws []) (ones [])).bind (fun p => some (PV.dict p.1 p.2)) = _
    rw [hd]; rfl
  have e2 : biV .sorted (true, .dict (ws (dedW [] (allB wl))) (ones (dedW [] (allB wl)))) = some (.list (ws o)) := hs
  exact cCmpT_go (b := .list (ws o)) rfl (kcB (bind_go (kcB (bind_go (cComp_go e (by rw [List.length_map]; (first | with_reducible exact Nat.le_trans (by assumption) (by decide) | lia | omega))) e1)) e2)) (ws_self o)
noncomputable def V5 (o x y : PV) (v : Vars) : Prop := v = W5 o x y ∨ ∃ b : Mode × PV, v = [(("order" : Str), (Mode.P, o)), (("one" : Str), (Mode.P, x)), (("letter" : Str), (Mode.P, y)), (("k" : Str), b)]
noncomputable def V5k (o x y k : PV) : Vars := [("order", .P, o), ("one", .P, x), ("letter", .P, y), ("k", .P, k)]
noncomputable def cut5 (x y k : PV) : Option (Bool × PV) := (cBin .Add (kc x) (kc y)).bind fun a => cutP a (some k) none
theorem c5_step {n : Nat} {v : Vars} {o x y k : PV} (h : V5 o x y v) : zCompStep (zRec T05 (n + 20)) (lcSc c5) v (lcT c5) (lcIfs c5) [] (lcElt c5) k (n + 20) = (andT (lastA (cC2 (n + 17) fH (kc o) (cut5 x y k))) (some true)).bind fun c => bif c then pubL (V5k o x y k) (cut5 x y k) else some ([], V5k o x y k) := by
  rcases h with rfl | ⟨b, rfl⟩ <;> kernel_rfl
theorem cut5_go {x : Wd} {c k : Nat} (hx : x.length ≤ 20) (hk : k ≤ x.length + 1) : cut5 (.str x) (.str [c]) (.int k) = some (true, .str ((x ++ [c]).drop k)) := by
  have hl : (x ++ [c]).length = x.length + 1 := List.length_append
  refine bind_go (add_let (Nat.le_trans hx (by decide))) ?_
  exact cFrom_go (q := x ++ [c]) (by rw [hl]; exact hk) (by rw [hl]; (first | with_reducible exact Nat.le_trans (by assumption) (by decide) | lia | omega))
noncomputable def g5 (o : List Wd) (t : Wd) : PV → List PV
  | .int k => if t.drop k.toNat ∈ o then [.str (t.drop k.toNat)] else []
  | _ => []
theorem head5 {o : List Wd} (B : Beg5 o) : ∀ t : Wd, ∃ r, ((List.range (t.length + 1)).flatMap fun k => if t.drop k ∈ o then [PV.str (t.drop k)] else []) = .str (lsx o t) :: r
  | [] => ⟨[], by
    show (if ([] : Wd) ∈ o then [PV.str []] else []) ++ [] = _
    rw [if_pos B.nil]; rfl⟩
  | c :: t => by
    obtain ⟨r, e⟩ := head5 B t
    have e' : ((List.range (t.length + 1)).map Nat.succ).flatMap (fun k => if (c :: t).drop k ∈ o then [PV.str ((c :: t).drop k)] else []) = .str (lsx o t) :: r := by
      rw [List.flatMap_map]; exact e
    rw [List.length_cons, List.range_succ_eq_map, List.flatMap_cons, e']
    show ∃ r, (if c :: t ∈ o then [PV.str (c :: t)] else []) ++ _ = _
    by_cases h : c :: t ∈ o
    · rw [if_pos h, lsx_in h]; exact ⟨_, rfl⟩
    · rw [if_neg h, lsx_out h]; exact ⟨_, rfl⟩
theorem flat5 (o : List Wd) (t : Wd) (n : Nat) : (rng n).flatMap (g5 o t) = (List.range n).flatMap fun k => if t.drop k ∈ o then [PV.str (t.drop k)] else [] := by
  unfold rng
  rw [List.flatMap_map]; rfl
theorem c5_go {n : Nat} {o : List Wd} (U : Up5 o) (B : Beg5 o) (hl : o.length ≤ 20) {x : Wd} {c : Nat} (hx : x.length ≤ 3) :
    ∃ v r, xComp T05 (n + 97) (lcSc c5) (W5 (.list (ws o)) (.str x) (.str [c])) (lcT c5) (lcIfs c5) [] (lcElt c5) (rng (x.length + 2)) = some (.str (lsx o (x ++ [c])) :: r, v) ∧ r.length ≤ 10 := by
  have hlen : (x ++ [c]).length + 1 = x.length + 2 := by rw [List.length_append]; rfl
  obtain ⟨v', h', _⟩ := comp_inv (T := T05) (c := 91) (sc := lcSc c5) (t := lcT c5) (ifs := lcIfs c5) (rest := []) (elt := lcElt c5) (g := g5 o (x ++ [c])) (P := fun rem v => (∃ i, rem = (rng (x.length + 2)).drop i) ∧ V5 (.list (ws o)) (.str x) (.str [c]) v) (fun y ys v m hP => by
    obtain ⟨⟨i, e⟩, hv⟩ := hP
    obtain ⟨q1, q2, q3⟩ := rng_drop e
    rw [q2]
    refine ⟨V5k (.list (ws o)) (.str x) (.str [c]) (.int i), (c5_step (n := m + 71) hv).trans ?_, ⟨i + 1, q3⟩, .inr ⟨_, rfl⟩⟩
    have ec := cut5_go (c := c) (k := i) (x := x) (by (first | with_reducible exact Nat.le_trans (by assumption) (by decide) | lia | omega)) (by (first | with_reducible exact Nat.le_trans (by assumption) (by decide) | lia | omega))
    rw [show m + 71 + 17 = m + 18 + 70 from rfl, lastA_go (has_C U hl ec), ec]
    show _ = some (if (x ++ [c]).drop (i : Int).toNat ∈ o then [PV.str ((x ++ [c]).drop (i : Int).toNat)] else [], _)
    rw [Int.toNat_natCast]
    by_cases h : (x ++ [c]).drop i ∈ o
    · rw [if_pos h, decide_eq_true h]; rfl
    · rw [if_neg h, decide_eq_false h]; rfl) (rng (x.length + 2)) (W5 (.list (ws o)) (.str x) (.str [c])) (n + (5 - (x.length + 2))) ⟨⟨0, rfl⟩, .inl rfl⟩
  obtain ⟨r, e⟩ := head5 B (x ++ [c])
  rw [hlen] at e
  rw [rng_len, show n + (5 - (x.length + 2)) + 91 + (x.length + 2) + 1 = n + 97 from a_fuel1 (by (first | with_reducible exact Nat.le_trans (by assumption) (by decide) | lia | omega)) rfl, flat5, e] at h'
  refine ⟨v', r, h', ?_⟩
  have := congrArg List.length e
  rw [List.length_flatMap, List.length_cons] at this
  have hs : ∀ (f : Nat → Nat) (L : List Nat), (∀ k, f k ≤ 1) → (L.map f).sum ≤ L.length := fun f L hf => by
    induction L with
    | nil => exact Nat.le_refl _
    | cons a L ih => rw [List.map_cons, List.sum_cons, List.length_cons]; have := hf a; (first | with_reducible exact Nat.le_trans (by assumption) (by decide) | lia | omega)
  have h3 := hs (fun k => (if (x ++ [c]).drop k ∈ o then [PV.str ((x ++ [c]).drop k)] else []).length) (List.range (x.length + 2)) (fun k => by
    by_cases h : (x ++ [c]).drop k ∈ o
    · rw [if_pos h]; exact Nat.le_refl _
    · rw [if_neg h]; exact Nat.zero_le _)
  rw [List.length_range] at h3
  (first | with_reducible exact Nat.le_trans (by assumption) (by decide) | lia | omega)
end Mine
namespace Mine
open PySem
theorem itr5_go {x : Wd} (hx : x.length ≤ 1000) : itr5 (.str x) = some (rng (x.length + 2)) := by
  have this := range_nat (n := x.length + 2) (by (first | with_reducible exact Nat.le_trans (by assumption) (by decide) | lia | omega))
  exact bind_go (a := [(true, .int ((x.length + 2 : Nat) : Int))]) (bind_go (a := (true, PV.int ((x.length + 2 : Nat) : Int))) (cBin_go (lenE_str (Nat.le_trans hx (by decide))) rfl (add_int _ _)) rfl) (range_of rfl this)
theorem st5_body {n : Nat} {L w a b t : PV} {o : List Wd} (U : Up5 o) (B : Beg5 o) (hl : o.length ≤ 20) {x : Wd} {c : Nat} (hx : x.length ≤ 3) {r : Vars} (hr : L5 (.str x) (.str [c]) r) :
    xSs T05 (n + 210) fW.scope (S3 L w a b t (.list (ws o)) r) (loopB b5) = some (.next (S3 L w a b t (.list (ws o)) (OLD (.str x) (.str [c]) (.str (lsx o (x ++ [c])))))) := by
  obtain ⟨v, q, e, hq⟩ := c5_go (n := n + 108) (c := c) U B hl hx
  refine ss_step (n := n + 209) bW5b (v' := S3 L w a b t (.list (ws o)) (OLD (.str x) (.str [c]) (.str (lsx o (x ++ [c]))))) ((la_5e (n := n + 189) hr).trans ?_) (ss_step (n := n + 208) rfl ((la_5f (n := n + 188)).trans (ifB_f ?_ rfl)) (ss_nil rfl))
  · have e1 : cItem ((itr5 (.str x)).bind fun its => cComp (xComp T05 (n + 189 + 16) (lcSc c5) (W5 (.list (ws o)) (.str x) (.str [c])) (lcT c5) (lcIfs c5) [] (lcElt c5) its)) (kc (.int 0)) = some (true, .str (lsx o (x ++ [c]))) := by
      refine cItem_go (a := .list (.str (lsx o (x ++ [c])) :: q)) (f := true) (bind_go (itr5_go (Nat.le_trans hx (by decide))) (cComp_go e (by rw [List.length_cons]; (first | with_reducible exact Nat.le_trans (by assumption) (by decide) | lia | omega)))) rfl ?_
      exact sub_list (i := 0) rfl (by rw [List.length_cons]; (first | with_reducible exact Nat.le_trans (by assumption) (by decide) | lia | omega))
    rw [e1]; rfl
  · rw [show n + 188 + 17 = n + 20 + 185 from rfl]
    refine cCmpT_go (goes_C U B hl (Nat.le_trans hx (by decide))) rfl ((ne_str _ _).trans ?_)
    rw [beq_self_eq_true]; rfl
theorem st5_let {n : Nat} {L w a b t : PV} {o : List Wd} (U : Up5 o) (B : Beg5 o) (hl : o.length ≤ 20) {x : Wd} (hx : x.length ≤ 3) {r : Vars} (hr : O5 (.str x) r) :
    ∃ y d, xS T05 (n + 213) fW.scope (S3 L w a b t (.list (ws o)) r) b5 = some (.next (S3 L w a b t (.list (ws o)) (OLD (.str x) y d))) := by
  obtain ⟨r1, h1, e1⟩ := la_5d (n := n + 202) (L := L) (w := w) (a := a) (b := b) (t := t) (o := .list (ws o)) (y := .str [97]) hr
  obtain ⟨r2, h2, e2⟩ := la_5d (n := n + 201) (L := L) (w := w) (a := a) (b := b) (t := t) (o := .list (ws o)) (x := .str x) (y := .str [98]) (r := OLD (.str x) (.str [97]) (.str (lsx o (x ++ [97])))) (.inr ⟨_, _, rfl⟩)
  exact ⟨.str [98], .str (lsx o (x ++ [98])), (la_5c (n := n + 193) hr).trans (for_go (m := n + 211) e1 (st5_body (n := n + 1) U B hl hx h1) (for_go (m := n + 210) e2 (st5_body (n := n) U B hl hx h2) rfl))⟩
theorem st5_loop {L w a b t : PV} {o : List Wd} (U : Up5 o) (B : Beg5 o) (hl : o.length ≤ 20) : ∀ (rem : List Wd) (n : Nat) (r : Vars), (∀ x ∈ rem, x.length ≤ 3) → D5 r →
    ∃ r', D5 r' ∧ (rem ≠ [] → ∃ x y d, r' = OLD x y d) ∧ xFor T05 (n + 214 + rem.length + 1) fW.scope (S3 L w a b t (.list (ws o)) r) (tgtE (bW 5)) (loopB (bW 5)) (ws rem) = some (.next (S3 L w a b t (.list (ws o)) r'))
  | [], n, r, _, hr => ⟨r, hr, fun h => absurd rfl h, rfl⟩
  | x :: rem, n, r, hx, hr => by
    obtain ⟨r1, h1, e1⟩ := la_5b (n := n + rem.length + 206) (L := L) (w := w) (a := a) (b := b) (t := t) (o := .list (ws o)) (x := .str x) hr
    obtain ⟨y, d, e2⟩ := st5_let (n := n + rem.length + 1) (L := L) (w := w) (a := a) (b := b) (t := t) U B hl (hx x (.head _)) h1
    obtain ⟨r', h', hn, e3⟩ := st5_loop U B hl rem n (OLD (.str x) y d) (fun z hz => hx z (.tail _ hz)) (.inr ⟨_, _, _, rfl⟩)
    rw [show n + rem.length + 206 + 9 = n + 214 + rem.length + 1 by (first | with_reducible exact Nat.le_trans (by assumption) (by decide) | lia | omega)] at e1
    rw [show n + rem.length + 1 + 213 = n + 214 + rem.length by (first | with_reducible exact Nat.le_trans (by assumption) (by decide) | lia | omega)] at e2
    refine ⟨r', h', fun _ => ?_, for_go (m := n + 214 + rem.length + 1) e1 (ss_step (n := n + 214 + rem.length) bW5 e2 (by rw [show n + 214 + rem.length = n + 213 + rem.length + 1 by (first | with_reducible exact Nat.le_trans (by assumption) (by decide) | lia | omega)]; exact ss_nil rfl)) e3⟩
    cases rem with
    | nil =>
      have := Option.some.inj e3
      exact ⟨.str x, y, d, by
        have h := congrArg (fun q => match q with | Res.next v => v | _ => []) this
        exact (List.append_cancel_left (as := S3 L w a b t (.list (ws o)) []) (bs := OLD (.str x) y d) (cs := r') h).symm⟩
    | cons z rem => exact hn nofun
theorem st5 {n : Nat} {L w a b t : PV} {wl o : List Wd} (hn : wl ≠ []) (hx : ∀ x ∈ wl, x.length ≤ 3) (G : Bgs wl o) :
    ∃ x y d, xS T05 (n + 236) fW.scope (S3 L w a b t (.list (ws o)) []) (bW 5) = some (.next (S5 L w a b t (.list (ws o)) x y d [])) := by
  have hx' : ∀ x ∈ o, x.length ≤ 3 := fun x h => by
    obtain ⟨z, hz, p⟩ := (G.mem x).mp h
    exact Nat.le_trans p.length_le (hx z hz)
  obtain ⟨r', _, h2, e⟩ := st5_loop (L := L) (w := w) (a := a) (b := b) (t := t) G.up (G.beg hn) G.len o (n + (20 - o.length)) [] hx' (.inl rfl)
  obtain ⟨x, y, d, rfl⟩ := h2 fun h => by have := (G.beg hn).nil; rw [h] at this; cases this
  rw [show n + (20 - o.length) + 214 + o.length + 1 = n + 235 from a_fuel1 G.len rfl] at e
  exact ⟨x, y, d, (la_5 (n := n + 216)).trans e⟩
end Mine
namespace Mine
open PySem
theorem cut_two {α : Type} {w : List α} {i j : Nat} (h : i ≤ w.length) : cut w (some (i : Int)) (some (j : Int)) = (w.drop i).take (min j w.length - i) := by
  unfold cut clip
  show (w.drop ((max 0 (min (if (i : Int) < 0 then (i : Int) + w.length else i) (w.length : Int))).toNat)).take ((max 0 (min (if (j : Int) < 0 then (j : Int) + w.length else j) (w.length : Int))).toNat - (max 0 (min (if (i : Int) < 0 then (i : Int) + w.length else i) (w.length : Int))).toNat) = _
  rw [if_neg (a_pos i), if_neg (a_pos j), a_clamp, a_clamp, Nat.min_eq_left h]
noncomputable def c8i : Expr := argN 0 (argN 1 (lcElt c8))
noncomputable def V8 (t : PV) (v : Vars) : Prop := v = [(("text" : Str), (Mode.P, t))] ∨ ∃ b : Mode × PV, v = [(("text" : Str), (Mode.P, t)), (("word" : Str), b)]
noncomputable def V8w (t x : PV) : Vars := [("text", .P, t), ("word", .P, x)]
noncomputable def V8i (t x : PV) (v : Vars) : Prop := v = V8w t x ∨ ∃ b : Mode × PV, v = [(("text" : Str), (Mode.P, t)), (("word" : Str), (Mode.P, x)), (("k" : Str), b)]
noncomputable def lenI (n : Nat) (t x : PV) : Option (Bool × PV) := (((lenR t).bind fun its => cComp (xComp T05 n (lcSc c8i) (V8w t x) (lcT c8i) (lcIfs c8i) [] (lcElt c8i) its)).bind fun a => biV .len a).bind fun v => some (true, v)
theorem c8_step {n : Nat} {v : Vars} {t x : PV} (h : V8 t v) : zCompStep (zRec T05 (n + 20)) (lcSc c8) v (lcT c8) [] [] (lcElt c8) x (n + 20) = pubL (V8w t x) ((((lenI (n + 13) t x).bind fun v => some [v]).bind fun vs => some ((true, x) :: vs)).bind tupP) := by
  rcases h with rfl | ⟨b, rfl⟩ <;> kernel_rfl
noncomputable def cS8 (t x k : PV) : Option (Bool × PV) := (cO (cBin .Add (kc k) (lenE x))).bind fun h => cutP (true, t) (some k) h
theorem c8i_step {n : Nat} {v : Vars} {t x k : PV} (h : V8i t x v) : zCompStep (zRec T05 (n + 15)) (lcSc c8i) v (lcT c8i) (lcIfs c8i) [] (lcElt c8i) k (n + 15) = (andT (cCmpT .Eq (cS8 t x k) (kc x)) (some true)).bind fun c => bif c then pubL [("text", .P, t), ("word", .P, x), ("k", .P, k)] (kc k) else some ([], [("text", .P, t), ("word", .P, x), ("k", .P, k)]) := by
  rcases h with rfl | ⟨b, rfl⟩ <;> kernel_rfl
theorem cut_win {t : Wd} {k m : Nat} (h : k ≤ t.length) : cut t (some (k : Int)) (some ((k + m : Nat) : Int)) = (t.drop k).take m := by
  rw [cut_two h]
  rcases Nat.le_total (k + m) t.length with q | q
  · rw [Nat.min_eq_left q, Nat.add_sub_cancel_left]
  · rw [Nat.min_eq_right q, List.take_of_length_le (by rw [List.length_drop]; exact Nat.le_refl _), List.take_of_length_le (by rw [List.length_drop]; (first | with_reducible exact Nat.le_trans (by assumption) (by decide) | lia | omega))]
theorem cS8_go {t x : Wd} {k : Nat} (hk : k ≤ t.length) (ht : t.length ≤ 1000) (hx : x.length ≤ 1000) : cS8 (.str t) (.str x) (.int k) = some (true, .str ((t.drop k).take x.length)) := by
  refine bind_go (a := some (.int ((k + x.length : Nat) : Int))) (bind_go (a := (true, PV.int ((k + x.length : Nat) : Int))) (cBin_go rfl (lenE_str (Nat.le_trans hx (by decide))) (add_int _ _)) rfl) ?_
  have := cutP_go (a := (true, .str t)) (bound_nat (i := k) (by (first | with_reducible exact Nat.le_trans (by assumption) (by decide) | lia | omega))) (bound_nat (i := k + x.length) (by (first | with_reducible exact Nat.le_trans (by assumption) (by decide) | lia | omega))) (cut_str (w := t) (lo := some (k : Int)) (hi := some ((k + x.length : Nat) : Int)) (by (first | with_reducible exact Nat.le_trans (by assumption) (by decide) | lia | omega)))
  rw [cut_win hk] at this
  exact this
noncomputable def g8 (t x : Wd) : PV → List PV
  | .int k => if (t.drop k.toNat).take x.length = x then [.int k] else []
  | _ => []
theorem occ_range (x : Wd) : ∀ t : Wd, ((List.range t.length).map fun k => if (t.drop k).take x.length = x then 1 else 0).sum = occ x t
  | [] => rfl
  | c :: t => by
    rw [List.length_cons, List.range_succ_eq_map, List.map_cons, List.map_map, List.sum_cons]
    show (if (c :: t).take x.length = x then 1 else 0) + ((List.range t.length).map fun k => if (t.drop k).take x.length = x then 1 else 0).sum = (if x <+: c :: t then 1 else 0) + occ x t
    rw [occ_range x t, if_iff (show ((c :: t).take x.length = x) ↔ x <+: c :: t from ⟨fun e => e ▸ List.take_prefix _ _, fun h => (List.prefix_iff_eq_take.mp h).symm⟩)]
theorem flat_occ (t x : Wd) : ((rng t.length).flatMap (g8 t x)).length = occ x t := by
  rw [← occ_range, List.length_flatMap]
  unfold rng
  rw [List.map_map]
  refine congrArg List.sum (List.map_congr_left fun k _ => ?_)
  show (if (t.drop (k : Int).toNat).take x.length = x then [PV.int k] else []).length = _
  rw [Int.toNat_natCast]
  by_cases h : (t.drop k).take x.length = x
  · rw [if_pos h, if_pos h]; rfl
  · rw [if_neg h, if_neg h]; rfl
theorem occ_le (x : Wd) : ∀ t : Wd, occ x t ≤ t.length
  | [] => Nat.le_refl _
  | c :: t => by
    have := occ_le x t
    show (if x <+: c :: t then 1 else 0) + occ x t ≤ t.length + 1
    by_cases h : x <+: c :: t
    · rw [if_pos h]; (first | with_reducible exact Nat.le_trans (by assumption) (by decide) | lia | omega)
    · rw [if_neg h]; (first | with_reducible exact Nat.le_trans (by assumption) (by decide) | lia | omega)
theorem lenI_go {n : Nat} {t x : Wd} (ht : t.length ≤ 8) (hx : x.length ≤ 3) : lenI (n + 40) (.str t) (.str x) = some (true, .int (occ x t : Nat)) := by
  obtain ⟨v', h', _⟩ := comp_inv (T := T05) (c := 15) (sc := lcSc c8i) (t := lcT c8i) (ifs := lcIfs c8i) (rest := []) (elt := lcElt c8i) (g := g8 t x) (P := fun rem v => (∃ i, rem = (rng t.length).drop i) ∧ V8i (.str t) (.str x) v) (fun y ys v m hP => by
    obtain ⟨⟨i, e⟩, hv⟩ := hP
    obtain ⟨q1, q2, q3⟩ := rng_drop e
    rw [q2]
    refine ⟨[("text", .P, .str t), ("word", .P, .str x), ("k", .P, .int i)], (c8i_step (n := m) hv).trans ?_, ⟨i + 1, q3⟩, .inr ⟨_, rfl⟩⟩
    rw [cCmpT_go (eb := kc (.str x)) (cS8_go (t := t) (x := x) (k := i) (by (first | with_reducible exact Nat.le_trans (by assumption) (by decide) | lia | omega)) (by (first | with_reducible exact Nat.le_trans (by assumption) (by decide) | lia | omega)) (by (first | with_reducible exact Nat.le_trans (by assumption) (by decide) | lia | omega))) rfl (eq_str _ _)]
    show _ = some (if (t.drop (i : Int).toNat).take x.length = x then [PV.int i] else [], _)
    rw [Int.toNat_natCast]
    by_cases h : (t.drop i).take x.length = x
    · rw [if_pos h, beq_iff_eq.mpr h]; rfl
    · rw [if_neg h, beq_eq_false_iff_ne.mpr h]; rfl) (rng t.length) (V8w (.str t) (.str x)) (n + (24 - t.length)) ⟨⟨0, rfl⟩, .inl rfl⟩
  rw [rng_len, show n + (24 - t.length) + 15 + t.length + 1 = n + 40 from a_fuel1 (by (first | with_reducible exact Nat.le_trans (by assumption) (by decide) | lia | omega)) rfl] at h'
  have hl : ((rng t.length).flatMap (g8 t x)).length ≤ 8 := by rw [flat_occ]; exact Nat.le_trans (occ_le x t) ht
  refine kcB (bind_go (bind_go (len_range (Nat.le_trans ht (by decide))) (cComp_go h' (by (first | with_reducible exact Nat.le_trans (by assumption) (by decide) | lia | omega)))) ?_)
  have := lenP_list (l := (rng t.length).flatMap (g8 t x)) (by (first | with_reducible exact Nat.le_trans (by assumption) (by decide) | lia | omega))
  rw [flat_occ] at this
  exact this
noncomputable def prF (f : Wd → Nat) (y : Wd) : PV := .tup [.str y, .int (f y : Nat)]
noncomputable def g8o (t : Wd) : PV → List PV
  | .str x => [prF (fun u => occ u t) x]
  | _ => []
theorem flat_prF (t : Wd) : ∀ wl : List Wd, (ws wl).flatMap (g8o t) = wl.map (prF fun u => occ u t)
  | [] => rfl
  | x :: wl => by
    show [prF (fun u => occ u t) x] ++ (ws wl).flatMap (g8o t) = _
    rw [flat_prF]; rfl
theorem c8_go {n : Nat} {t : Wd} {wl : List Wd} (ht : t.length ≤ 8) (hl : wl.length ≤ 5) (hx : ∀ x ∈ wl, x.length ≤ 3) : ∃ v, xComp T05 (n + 60) (lcSc c8) [("text", .P, .str t)] (lcT c8) [] [] (lcElt c8) (ws wl) = some (wl.map (prF fun u => occ u t), v) := by
  obtain ⟨v', h', _⟩ := comp_inv (T := T05) (c := 47) (sc := lcSc c8) (t := lcT c8) (ifs := []) (rest := []) (elt := lcElt c8) (g := g8o t) (P := fun rem v => (∃ L : List Wd, rem = ws L ∧ ∀ x ∈ L, x.length ≤ 3) ∧ V8 (.str t) v) (fun y ys v m hP => by
    obtain ⟨⟨L, e, hL⟩, hv⟩ := hP
    cases L with
    | nil => cases e
    | cons x L =>
      obtain ⟨rfl, rfl⟩ := List.cons.inj e
      refine ⟨V8w (.str t) (.str x), (c8_step (n := m + 27) hv).trans ?_, ⟨L, rfl, fun y hy => hL y (.tail _ hy)⟩, .inr ⟨(.P, .str x), rfl⟩⟩
      rw [show m + 27 + 13 = m + 40 from rfl, lenI_go ht (hL x (.head _))]; rfl) (ws wl) [("text", .P, .str t)] (n + (12 - wl.length)) ⟨⟨wl, rfl, hx⟩, .inl rfl⟩
  rw [flat_prF, ws_len, show n + (12 - wl.length) + 47 + wl.length + 1 = n + 60 from a_fuel1 (by (first | with_reducible exact Nat.le_trans (by assumption) (by decide) | lia | omega)) rfl] at h'
  exact ⟨v', h'⟩
end Mine
namespace Mine
open PySem
theorem getD_setD {p q : Piece} {c : Int} : ∀ {D : Tbl}, getD q (setD p c D) = if q = p then some c else getD q D
  | [] => by
    show (if p = q then some c else none) = _
    by_cases h : q = p
    · rw [if_pos h, if_pos h.symm]
    · rw [if_neg h, if_neg fun e => h e.symm]; rfl
  | d :: D => by
    unfold setD
    by_cases h : d.1 = p
    · rw [if_pos h]
      show (if d.1 = q then some c else getD q D) = if q = p then some c else if d.1 = q then some d.2 else getD q D
      by_cases e : q = p
      · rw [if_pos e, if_pos (h.trans e.symm)]
      · rw [if_neg e, if_neg fun x => e (x.symm.trans h), if_neg fun x => e (x.symm.trans h)]
    · rw [if_neg h]
      show (if d.1 = q then some d.2 else getD q (setD p c D)) = if q = p then some c else if d.1 = q then some d.2 else getD q D
      rw [getD_setD]
      by_cases e : d.1 = q
      · rw [if_pos e, if_pos e, if_neg fun x => h (e.trans x)]
      · rw [if_neg e, if_neg e]
theorem tot_setD {p : Piece} {c : Int} : ∀ {D : Tbl}, tot (setD p c D) = tot D - (getD p D).getD 0 + c
  | [] => by
    show c + 0 = 0 - 0 + c
    (first | with_reducible exact Nat.le_trans (by assumption) (by decide) | lia | omega)
  | d :: D => by
    unfold setD
    show tot _ = tot (d :: D) - (if d.1 = p then some d.2 else getD p D).getD 0 + c
    have e0 : tot (d :: D) = d.2 + tot D := List.sum_cons ..
    by_cases h : d.1 = p
    · rw [if_pos h, if_pos h, e0]
      have e1 : tot ((d.1, c) :: D) = c + tot D := List.sum_cons ..
      rw [e1]
      show c + tot D = d.2 + tot D - d.2 + c
      (first | with_reducible exact Nat.le_trans (by assumption) (by decide) | lia | omega)
    · rw [if_neg h, if_neg h, e0]
      have e1 : tot (d :: setD p c D) = d.2 + tot (setD p c D) := List.sum_cons ..
      rw [e1, tot_setD]; (first | with_reducible exact Nat.le_trans (by assumption) (by decide) | lia | omega)
theorem tot_bump {p : Piece} {c : Int} {D : Tbl} : tot (bump p c D) = tot D + c := by
  unfold bump
  rw [tot_setD]; (first | with_reducible exact Nat.le_trans (by assumption) (by decide) | lia | omega)
theorem tot_bumps : ∀ {ps : List Piece} {D : Tbl}, tot (bumps D ps) = tot D + ps.length
  | [], D => (Int.add_zero _).symm
  | p :: ps, D => by
    show tot (bumps (bump p 1 D) ps) = _
    rw [tot_bumps, tot_bump, List.length_cons]; (first | with_reducible exact Nat.le_trans (by assumption) (by decide) | lia | omega)
noncomputable def often (D : Tbl) (p : Piece) : Int := (getD p D).getD 0
theorem often_bump {p q : Piece} {D : Tbl} : often (bump p 1 D) q = often D q + if q = p then 1 else 0 := by
  unfold often bump
  rw [getD_setD]
  by_cases h : q = p
  · rw [if_pos h, if_pos h, h]; rfl
  · rw [if_neg h, if_neg h, Int.add_zero]
theorem often_bumps : ∀ {ps : List Piece} {D : Tbl} {q : Piece}, often (bumps D ps) q = often D q + (ps.count q : Nat)
  | [], D, q => (Int.add_zero _).symm
  | p :: ps, D, q => by
    show often (bumps (bump p 1 D) ps) q = _
    rw [often_bumps, often_bump, List.count_cons]
    by_cases h : q = p
    · rw [if_pos h, if_pos (by rw [h]; exact beq_self_eq_true p)]; (first | with_reducible exact Nat.le_trans (by assumption) (by decide) | lia | omega)
    · rw [if_neg h, if_neg (fun e => h (eq_of_beq e).symm)]; (first | with_reducible exact Nat.le_trans (by assumption) (by decide) | lia | omega)
noncomputable def vsF (f : Wd → Nat) (K : List Wd) : List PV := K.map fun y => .int (f y : Nat)
theorem putF (f : Wd → Nat) (y : Wd) : ∀ K : List Wd, y ∉ K → putD2 (.str y) (.int (f y : Nat)) (ws K) (vsF f K) = some (ws (K ++ [y]), vsF f (K ++ [y]))
  | [], _ => rfl
  | z :: K, h => by
    have e : PV.eq (.str z) (.str y) = some (z == y) := by kernel_rfl
    show (match PV.eq (.str z) (.str y) with
      | some true => some (PV.str z :: ws K, PV.int (f y : Nat) :: vsF f K)
      | some false => (putD2 (.str y) (.int (f y : Nat)) (ws K) (vsF f K)).map fun (q : List PV × List PV) => (PV.str z :: q.1, [PV.int (f z : Nat)] ++ q.2)
      | Option.none => Option.none) = _
    rw [e, beq_eq_false_iff_ne.mpr (fun q : z = y => h (q ▸ List.mem_cons_self ..)), putF f y K fun m => h (.tail _ m)]; rfl
theorem dict_F (f : Wd → Nat) : ∀ (ys K : List Wd), (K ++ ys).Nodup → (K ++ ys).length ≤ 1000 → dictL (ys.map (prF f)) (ws K) (vsF f K) = some (ws (K ++ ys), vsF f (K ++ ys))
  | [], K, _, _ => by rw [List.append_nil]; rfl
  | y :: ys, K, hn, hl => by
    have hl' := hl
    rw [List.length_append, List.length_cons] at hl'
    have c : (keyP (.str y) && (PV.int (f y : Nat)).imm && szOk (ws K).length) = true := by
      rw [show szOk (ws K).length = true from decide_eq_true (by rw [ws_len]; (first | with_reducible exact Nat.le_trans (by assumption) (by decide) | lia | omega))]; rfl
    have hy : y ∉ K := fun h => (List.nodup_append.mp hn).2.2 y h y (.head _) rfl
    show (bif (keyP (.str y) && (PV.int (f y : Nat)).imm && szOk (ws K).length) then (putD2 (.str y) (.int (f y : Nat)) (ws K) (vsF f K)).bind fun p => dictL (ys.map (prF f)) p.1 p.2 else none) = _
    rw [c, putF f y K hy]
    have e : K ++ y :: ys = (K ++ [y]) ++ ys := by rw [List.append_assoc]; rfl
    rw [e] at hn hl ⊢
    exact dict_F f ys (K ++ [y]) hn hl
theorem getF (f : Wd → Nat) {y : Wd} : ∀ {K : List Wd}, y ∈ K → getD2 (.str y) (ws K) (vsF f K) = some (some (.int (f y : Nat)))
  | z :: K, h => by
    have e : PV.eq (.str z) (.str y) = some (z == y) := by kernel_rfl
    show (match PV.eq (.str z) (.str y) with
      | some true => (vsF f (z :: K)).head?.map some
      | some false => getD2 (.str y) (ws K) (vsF f K)
      | Option.none => Option.none) = _
    rw [e]
    by_cases q : z = y
    · rw [beq_iff_eq.mpr q, ← q]; rfl
    · rw [beq_eq_false_iff_ne.mpr q]; exact getF f ((List.mem_cons.mp h).resolve_left (Ne.symm q))
noncomputable def dF (f : Wd → Nat) (K : List Wd) : PV := .dict (ws K) (vsF f K)
theorem item_F (f : Wd → Nat) {y : Wd} {K : List Wd} (h : y ∈ K) : cItem (kc (dF f K)) (kc (.str y)) = some (true, .int (f y : Nat)) := by
  refine cItem_go (a := dF f K) (b := .str y) rfl rfl ?_
  show (if keyP (.str y) = true then (getD2 (.str y) (ws K) (vsF f K)).bind id else none) = _
  rw [if_pos (show keyP (.str y) = true from rfl), getF f h]; rfl
theorem evalMl2 (i j : Int) : evalBin .Mult (.int i) (.int j) = if smallI i = true then some (PV.int (i * j)) else none := by
  unfold evalBin mulP intP
  rfl
theorem twice_F (k : Nat) : cBin .Mult (kc (.int 2)) (some (true, .int (k : Nat))) = some (true, .int ((2 * k : Nat) : Int)) := by
  refine (cBin_go (ea := kc (.int 2)) (a := .int 2) rfl rfl (evalMl2 2 k |>.trans (if_pos (sm_nat (i := 2) (by decide))))).trans ?_
  exact congrArg (fun i => some (true, PV.int i)) (by (first | with_reducible exact Nat.le_trans (by assumption) (by decide) | lia | omega))
theorem gE_go {D : Tbl} {q : Wd} : gE D q = some (true, .int (often D q)) := by
  have e : meth2 (Str.ofString "get") (dic D) (key q) (.int 0) = bif keyP (key q) && PV.imms (vsD D) && (PV.int 0).imm then (getD2 (key q) (ksD D) (vsD D)).bind fun o => some (o.getD (.int 0)) else none := by kernel_rfl
  unfold gE
  rw [e, key_keyP, imms_ints, getD2_key]
  unfold often
  cases getD q D <;> rfl
theorem sum_F (f : Wd → Nat) (K : List Wd) : sumV (dF f K) = some (true, .int ((K.map f).sum : Nat)) := by
  have h1 : sumL 0 (vsF f K) = some (((K.map f).sum : Nat) : Int) := by
    have h := sumL_ints (K.map fun y => (f y : Int)) 0
    rw [List.map_map] at h
    refine (show sumL 0 (vsF f K) = _ from h).trans (congrArg some ?_)
    rw [Int.zero_add]
    clear h
    induction K with
    | nil => rfl
    | cons x K ih => rw [List.map_cons, List.sum_cons, ih, List.map_cons, List.sum_cons]; (first | with_reducible exact Nat.le_trans (by assumption) (by decide) | lia | omega)
  have e : viewP false (Str.ofString "values") (true, dF f K) = some (vsF f K) := if_pos (c := (true || PV.imms (vsF f K)) = true) (e := none) rfl
  refine kcB (bind_go e ?_)
  show (sumL 0 (vsF f K)).bind (fun i => some (PV.int i)) = _
  rw [h1]; rfl
end Mine
namespace Mine
open PySem
theorem rev_str {q : Wd} (h : q.length ≤ 1000) : revP (true, .str q) (.int (-1)) = some (true, .str q.reverse) := by
  have e : revP (true, .str q) (.int (-1)) = (if szOk q.length = true then some (PV.str q.reverse) else none).map fun r => (true || okItems (.str q), r) := by kernel_rfl
  rw [e, if_pos (show szOk _ = true from decide_eq_true (Nat.le_trans h (by decide)))]; rfl
noncomputable def V9 (d : PV) (D : Tbl) (x : PV) : Vars := [("due", .P, d), ("table", .P, dic D), ("word", .P, x)]
noncomputable def V9i (d : PV) (D : Tbl) (v : Vars) : Prop := v = [(("due" : Str), (Mode.P, d)), (("table" : Str), (Mode.P, dic D))] ∨ ∃ b : Mode × PV, v = [(("due" : Str), (Mode.P, d)), (("table" : Str), (Mode.P, dic D)), (("word" : Str), b)]
theorem c9_step {n : Nat} {v : Vars} {d : PV} {D : Tbl} {q : Wd} (h : V9i d D v) : zCompStep (zRec T05 (n + 20)) (lcSc c9) v (lcT c9) (lcIfs c9) [] (lcElt c9) (.str q) (n + 20) = (andT (cCmpT .NotEq (gE D q) (cBin .Mult (kc (.int 2)) (cItem (kc d) (kc (.str q))))) (some true)).bind fun c => bif c then pubL (V9 d D (.str q)) (kc (.str q)) else some ([], V9 d D (.str q)) := by
  rcases h with rfl | ⟨b, rfl⟩ <;> kernel_rfl
noncomputable def gR (D : Tbl) (q : Wd) : Option (Bool × PV) := ((((revP (true, .str q) (.int (-1))).bind fun v => some (v :: [(true, lits "text")])).bind fun vs => some ((true, lits "ends") :: vs)).bind tupP).bind fun b => (meth2 (Str.ofString "get") (dic D) b.2 (.int 0)).bind fun v => some (true, v)
noncomputable def V11 (d : PV) (D : Tbl) (x : PV) : Vars := [("due", .P, d), ("turned", .P, dic D), ("word", .P, x)]
noncomputable def V11i (d : PV) (D : Tbl) (v : Vars) : Prop := v = [(("due" : Str), (Mode.P, d)), (("turned" : Str), (Mode.P, dic D))] ∨ ∃ b : Mode × PV, v = [(("due" : Str), (Mode.P, d)), (("turned" : Str), (Mode.P, dic D)), (("word" : Str), b)]
theorem c11_step {n : Nat} {v : Vars} {d : PV} {D : Tbl} {q : Wd} (h : V11i d D v) : zCompStep (zRec T05 (n + 20)) (lcSc c11) v (lcT c11) (lcIfs c11) [] (lcElt c11) (.str q) (n + 20) = (andT (cCmpT .NotEq (gR D q) (cBin .Mult (kc (.int 2)) (cItem (kc d) (kc (.str q))))) (some true)).bind fun c => bif c then pubL (V11 d D (.str q)) (kc (.str q)) else some ([], V11 d D (.str q)) := by
  rcases h with rfl | ⟨b, rfl⟩ <;> kernel_rfl
theorem c10_step {n : Nat} {v : Vars} {q : Wd} (h : One "word" v) : zCompStep (zRec T05 (n + 20)) (lcSc c10) v (lcT c10) [] [] (lcElt c10) (.str q) (n + 20) = pubL [("word", .P, .str q)] (revP (true, .str q) (.int (-1))) := by
  rcases h with rfl | ⟨b, rfl⟩ <;> kernel_rfl
theorem ne_int0 {i j : Int} (h : i = j) : evalCmp .NotEq (.int i) (.int j) = some false := by
  have e : evalCmp .NotEq (.int i) (.int j) = some (!(i == j)) := by kernel_rfl
  rw [e, beq_iff_eq.mpr h]; rfl
theorem flat_nil (l : List PV) : (l.flatMap fun _ => ([] : List PV)) = [] := by
  induction l with
  | nil => rfl
  | cons x l ih => rw [List.flatMap_cons, ih]; rfl
theorem c9_go {n : Nat} {f : Wd → Nat} {D : Tbl} {wl : List Wd} (hl : wl.length ≤ 5) (h : ∀ q ∈ wl, often D q = ((2 * f q : Nat) : Int)) : ∃ v, xComp T05 (n + 40) (lcSc c9) [("due", .P, dF f wl), ("table", .P, dic D)] (lcT c9) (lcIfs c9) [] (lcElt c9) (ws wl) = some ([], v) := by
  obtain ⟨v', h', _⟩ := comp_inv (T := T05) (c := 20) (sc := lcSc c9) (t := lcT c9) (ifs := lcIfs c9) (rest := []) (elt := lcElt c9) (g := fun _ => []) (P := fun rem v => (∃ L : List Wd, rem = ws L ∧ ∀ x ∈ L, x ∈ wl) ∧ V9i (dF f wl) D v) (fun y ys v m hP => by
    obtain ⟨⟨L, e, hL⟩, hv⟩ := hP
    cases L with
    | nil => cases e
    | cons x L =>
      obtain ⟨rfl, rfl⟩ := List.cons.inj e
      refine ⟨V9 (dF f wl) D (.str x), (c9_step hv).trans ?_, ⟨L, rfl, fun y hy => hL y (.tail _ hy)⟩, .inr ⟨(.P, .str x), rfl⟩⟩
      rw [item_F f (hL x (.head _)), twice_F, gE_go, cCmpT_go (ea := some (true, .int (often D x))) rfl rfl (ne_int0 (h x (hL x (.head _))))]; rfl) (ws wl) _ (n + (19 - wl.length)) ⟨⟨wl, rfl, fun _ h => h⟩, .inl rfl⟩
  rw [flat_nil, ws_len, show n + (19 - wl.length) + 20 + wl.length + 1 = n + 40 from a_fuel1 (by (first | with_reducible exact Nat.le_trans (by assumption) (by decide) | lia | omega)) rfl] at h'
  exact ⟨v', h'⟩
theorem gR_go {D : Tbl} {q : Wd} (hq : q.length ≤ 1000) : gR D q = some (true, .int (often D q.reverse)) := by
  unfold gR
  rw [rev_str hq]
  exact gE_go (D := D) (q := q.reverse)
theorem c11_go {n : Nat} {f : Wd → Nat} {D : Tbl} {wl : List Wd} (hl : wl.length ≤ 5) (hx : ∀ x ∈ wl, x.length ≤ 3) (h : ∀ q ∈ wl, often D q.reverse = ((2 * f q : Nat) : Int)) : ∃ v, xComp T05 (n + 40) (lcSc c11) [("due", .P, dF f wl), ("turned", .P, dic D)] (lcT c11) (lcIfs c11) [] (lcElt c11) (ws wl) = some ([], v) := by
  obtain ⟨v', h', _⟩ := comp_inv (T := T05) (c := 20) (sc := lcSc c11) (t := lcT c11) (ifs := lcIfs c11) (rest := []) (elt := lcElt c11) (g := fun _ => []) (P := fun rem v => (∃ L : List Wd, rem = ws L ∧ ∀ x ∈ L, x ∈ wl) ∧ V11i (dF f wl) D v) (fun y ys v m hP => by
    obtain ⟨⟨L, e, hL⟩, hv⟩ := hP
    cases L with
    | nil => cases e
    | cons x L =>
      obtain ⟨rfl, rfl⟩ := List.cons.inj e
      refine ⟨V11 (dF f wl) D (.str x), (c11_step hv).trans ?_, ⟨L, rfl, fun y hy => hL y (.tail _ hy)⟩, .inr ⟨(.P, .str x), rfl⟩⟩
      rw [item_F f (hL x (.head _)), twice_F, gR_go (Nat.le_trans (hx x (hL x (.head _))) (by decide)), cCmpT_go (ea := some (true, .int (often D x.reverse))) rfl rfl (ne_int0 (h x (hL x (.head _))))]; rfl) (ws wl) _ (n + (19 - wl.length)) ⟨⟨wl, rfl, fun _ h => h⟩, .inl rfl⟩
  rw [flat_nil, ws_len, show n + (19 - wl.length) + 20 + wl.length + 1 = n + 40 from a_fuel1 (by (first | with_reducible exact Nat.le_trans (by assumption) (by decide) | lia | omega)) rfl] at h'
  exact ⟨v', h'⟩
noncomputable def g10 : PV → List PV
  | .str x => [.str x.reverse]
  | _ => []
theorem flat_rev : ∀ wl : List Wd, (ws wl).flatMap g10 = ws (wl.map List.reverse)
  | [] => rfl
  | x :: wl => by
    show [PV.str x.reverse] ++ (ws wl).flatMap g10 = _
    rw [flat_rev]; rfl
theorem c10_go {n : Nat} {wl : List Wd} (hl : wl.length ≤ 5) (hx : ∀ x ∈ wl, x.length ≤ 3) : ∃ v, xComp T05 (n + 40) (lcSc c10) [] (lcT c10) [] [] (lcElt c10) (ws wl) = some (ws (wl.map List.reverse), v) := by
  obtain ⟨v', h', _⟩ := comp_inv (T := T05) (c := 20) (sc := lcSc c10) (t := lcT c10) (ifs := []) (rest := []) (elt := lcElt c10) (g := g10) (P := fun rem v => (∃ L : List Wd, rem = ws L ∧ ∀ x ∈ L, x.length ≤ 3) ∧ One "word" v) (fun y ys v m hP => by
    obtain ⟨⟨L, e, hL⟩, hv⟩ := hP
    cases L with
    | nil => cases e
    | cons x L =>
      obtain ⟨rfl, rfl⟩ := List.cons.inj e
      refine ⟨[("word", .P, .str x)], (c10_step hv).trans ?_, ⟨L, rfl, fun y hy => hL y (.tail _ hy)⟩, .inr ⟨(.P, .str x), rfl⟩⟩
      rw [rev_str (Nat.le_trans (hL x (.head _)) (by decide))]; rfl) (ws wl) [] (n + (19 - wl.length)) ⟨⟨wl, rfl, hx⟩, .inl rfl⟩
  rw [flat_rev, ws_len, show n + (19 - wl.length) + 20 + wl.length + 1 = n + 40 from a_fuel1 (by omega) rfl] at h'
  exact ⟨v', h'⟩
end Mine
namespace Mine
open PySem
theorem sum_le8 {f : Wd → Nat} : ∀ wl : List Wd, (∀ w, f w ≤ 8) → (wl.map f).sum ≤ 8 * wl.length
  | [], _ => Nat.le_refl _
  | x :: wl, h => by
    have h1 := sum_le8 wl h
    have h2 := h x
    rw [List.map_cons, List.sum_cons, List.length_cons]; (first | with_reducible exact Nat.le_trans (by assumption) (by decide) | lia | omega)
noncomputable def tE5 (o wl : List Wd) (t : Wd) : Tbl := bumps [] (evR o wl [] t)
theorem tE5_often {o wl : List Wd} (G : Bgs wl o) {u t : Wd} (hu : u ∈ wl) (hn : u ≠ []) : often (tE5 o wl t) u = ((2 * occ u t : Nat) : Int) := by
  unfold tE5
  rw [often_bumps, ends_count G hu hn]
  exact Int.zero_add _
theorem tE5_tot {o wl : List Wd} (G : Bgs wl o) (K : Wk wl) (t : Wd) : tot (tE5 o wl t) = ((2 * (wl.map fun u => occ u t).sum : Nat) : Int) := by
  unfold tE5
  rw [tot_bumps, ends_total G K.nd (fun u hu => (K.ok u hu).1)]
  exact Int.zero_add _
theorem tE5_len {o wl : List Wd} (G : Bgs wl o) (K : Wk wl) (hl : wl.length ≤ 5) {t : Wd} (ht : t.length ≤ 8) : (tE5 o wl t).length ≤ 80 := by
  have h1 : (tE5 o wl t).length ≤ ([] : Tbl).length + (evR o wl [] t).length := bumps_len
  rw [ends_total G K.nd (fun u hu => (K.ok u hu).1)] at h1
  have h2 := sum_le8 (f := fun u => occ u t) wl fun u => Nat.le_trans (occ_le u t) ht
  have h3 : ([] : Tbl).length = 0 := rfl
  (first | with_reducible exact Nat.le_trans (by assumption) (by decide) | lia | omega)
theorem ends_C {n : Nat} {wl o : List Wd} {a b : Option (Bool × PV)} (G : Bgs wl o) (K : Wk wl) (hn : wl ≠ []) (hw : wl.length ≤ 5) {t : Wd} (ht : t.length ≤ 8) (ha : a = some (true, .list (ws wl))) (hb : b = some (true, .str t)) :
    cC2 (n + 370) fE a b = some (true, dic (tE5 o wl t)) := by
  rw [ha, hb]
  show (xCall T05 (n + 370) fE [(.P, .list (ws wl)), (.P, .str t)]).bind (fun v => some (true, v)) = _
  rw [ends_call G hn hw (fun x h => (K.ok x h).2) ht]; rfl
theorem Wk.rev {wl : List Wd} (K : Wk wl) : Wk (wl.map List.reverse) where
  nd := by
    refine List.pairwise_map.mpr (K.nd.imp fun h e => h (List.reverse_inj.mp e))
  ok := fun w hw => by
    obtain ⟨x, hx, rfl⟩ := List.mem_map.mp hw
    obtain ⟨h1, h2⟩ := K.ok x hx
    exact ⟨fun e => h1 (List.reverse_eq_nil_iff.mp e), by rw [List.length_reverse]; exact h2⟩
theorem st6 {n : Nat} {L a b x y d : PV} {wl o : List Wd} {t : Wd} (G : Bgs wl o) (K : Wk wl) (hn : wl ≠ []) (hw : wl.length ≤ 5) (ht : t.length ≤ 8) : xS T05 (n + 400) fW.scope (S5 L (.list (ws wl)) a b (.str t) (.list (ws o)) x y d []) (bW 6) = some (.next (S6 L (.list (ws wl)) a b (.str t) (.list (ws o)) x y d (dic (tE5 o wl t)) [])) := by
  have e := ends_C (n := n + 27) (a := kc (.list (ws wl))) (b := kc (.str t)) G K hn hw ht rfl rfl
  rw [show n + 27 + 370 = n + 380 + 17 from rfl] at e
  exact (la_6 (n := n + 380)).trans ((cAsg_go e).trans (by kernel_rfl))
theorem st8 {n : Nat} {L a b o x y d g : PV} {wl : List Wd} {t : Wd} (K : Wk wl) (hw : wl.length ≤ 5) (ht : t.length ≤ 8) : xS T05 (n + 100) fW.scope (S6 L (.list (ws wl)) a b (.str t) o x y d g []) (bW 8) = some (.next (S6 L (.list (ws wl)) a b (.str t) o x y (dF (fun u => occ u t) wl) g [])) := by
  obtain ⟨v, e⟩ := c8_go (n := n + 35) ht hw (fun x h => (K.ok x h).2)
  have hd := dict_F (fun u => occ u t) wl [] K.nd (by rw [List.nil_append]; (first | with_reducible exact Nat.le_trans (by assumption) (by decide) | lia | omega))
  have e1 : biV .dict (true, .list (wl.map (prF fun u => occ u t))) = some (dF (fun u => occ u t) wl) := by
    show (dictL (wl.map (prF fun u => occ u t)) (ws []) (vsF (fun u => occ u t) [])).bind (fun p => some (PV.dict p.1 p.2)) = _
    rw [hd]; rfl
  refine (la_8 (n := n + 80)).trans ?_
  rw [kcB (bind_go (cComp_go e (by rw [List.length_map]; (first | with_reducible exact Nat.le_trans (by assumption) (by decide) | lia | omega))) e1)]
  kernel_rfl
theorem st9 {n : Nat} {L a b t' o' x y : PV} {wl o : List Wd} {t : Wd} (G : Bgs wl o) (K : Wk wl) (hw : wl.length ≤ 5) (ht : t.length ≤ 8) : xS T05 (n + 200) fW.scope (S6 L (.list (ws wl)) a b t' o' x y (dF (fun u => occ u t) wl) (dic (tE5 o wl t)) []) (bW 9) = some (.next (S6 L (.list (ws wl)) a b t' o' x y (dF (fun u => occ u t) wl) (dic (tE5 o wl t)) [])) := by
  obtain ⟨v, e⟩ := c9_go (n := n + 155) (f := fun u => occ u t) (D := tE5 o wl t) hw (fun q hq => tE5_often G hq (K.ok q hq).1)
  have hl := tE5_len G K hw ht
  have ec : cC1 (n + 180 + 14) fN (kc (dic (tE5 o wl t))) = some (true, .int (tot (tE5 o wl t))) := by
    show (xCall T05 (n + 194) fN [(.P, dic (tE5 o wl t))]).bind (fun v => some (true, v)) = _
    rw [show n + 194 = n + (164 - (tE5 o wl t).length) + 30 + (tE5 o wl t).length from (a_fuel (m := 194) (by (first | with_reducible exact Nat.le_trans (by assumption) (by decide) | lia | omega)) rfl).symm, cnt_call (.inl rfl)]; rfl
  refine (la_9 (n := n + 180)).trans (ifB_f ?_ rfl)
  refine (orT_f (cCmpT_go (cComp_go e (Nat.zero_le _)) rfl (ne_false rfl))).trans (orT_f ?_)
  rw [ec, sum_F, twice_F]
  exact cCmpT_go rfl rfl (ne_int0 (tE5_tot G K t))
theorem st10 {n : Nat} {L a b o' x y d g : PV} {wl o : List Wd} {t : Wd} (G : Bgs (wl.map List.reverse) o) (K : Wk wl) (hn : wl ≠ []) (hw : wl.length ≤ 5) (ht : t.length ≤ 8) : xS T05 (n + 400) fW.scope (S6 L (.list (ws wl)) a b (.str t) o' x y d g []) (bW 10) = some (.next (S7 L (.list (ws wl)) a b (.str t) o' x y d g (dic (tE5 o (wl.map List.reverse) t.reverse)) [])) := by
  obtain ⟨v, e⟩ := c10_go (n := n + 355) hw (fun x h => (K.ok x h).2)
  have hrl : (wl.map List.reverse).length ≤ 5 := by rw [List.length_map]; exact hw
  have e1 : cComp (xComp T05 (n + 380 + 15) (lcSc c10) [] (lcT c10) [] [] (lcElt c10) (ws wl)) = some (true, .list (ws (wl.map List.reverse))) := cComp_go e (by rw [ws_len]; (first | with_reducible exact Nat.le_trans (by assumption) (by decide) | lia | omega))
  have e2 := ends_C (n := n + 27) G K.rev (fun h => hn (List.map_eq_nil_iff.mp h)) hrl (by rw [List.length_reverse]; exact ht) e1 (rev_str (by (first | with_reducible exact Nat.le_trans (by assumption) (by decide) | lia | omega)))
  rw [show n + 27 + 370 = n + 380 + 17 from rfl] at e2
  exact (la_10 (n := n + 380)).trans ((cAsg_go e2).trans (by kernel_rfl))
theorem st11 {n : Nat} {L a b t' o' x y g : PV} {wl o : List Wd} {t : Wd} (G : Bgs (wl.map List.reverse) o) (K : Wk wl) (hw : wl.length ≤ 5) : xS T05 (n + 100) fW.scope (S7 L (.list (ws wl)) a b t' o' x y (dF (fun u => occ u t) wl) g (dic (tE5 o (wl.map List.reverse) t.reverse)) []) (bW 11) = some (.next (S7 L (.list (ws wl)) a b t' o' x y (dF (fun u => occ u t) wl) g (dic (tE5 o (wl.map List.reverse) t.reverse)) [])) := by
  obtain ⟨v, e⟩ := c11_go (n := n + 54) (f := fun u => occ u t) (D := tE5 o (wl.map List.reverse) t.reverse) hw (fun x h => (K.ok x h).2) (fun q hq => by
    rw [tE5_often G (List.mem_map_of_mem hq) (K.rev.ok _ (List.mem_map_of_mem hq)).1, occ_rev (K.ok q hq).1])
  exact (la_11 (n := n + 80)).trans (ifB_f ((orT_f (cCmpT_go (cComp_go e (Nat.zero_le _)) rfl (ne_false rfl))).trans rfl) rfl)
end Mine
namespace Mine
open PySem
theorem cut_last (w : Wd) : cut w (some (-1)) none = w.drop (w.length - 1) := by
  have e : clip w.length (-1) = w.length - 1 := a_last w.length
  show (w.drop (clip w.length (-1))).take (w.length - clip w.length (-1)) = _
  rw [e]
  exact List.take_of_length_le (by rw [List.length_drop]; exact Nat.le_refl _)
theorem last_one : ∀ {w : Wd}, w ≠ [] → ∃ c, w.drop (w.length - 1) = [c]
  | [], h => absurd rfl h
  | [c], _ => ⟨c, rfl⟩
  | a :: b :: r, _ => by
    obtain ⟨c, e⟩ := last_one (w := b :: r) nofun
    exact ⟨c, e⟩
theorem st12 {n : Nat} {L a b t o x y d g h : PV} {w0 : Wd} {wl : List Wd} (h3 : w0.length ≤ 3) (hl : (w0 :: wl).length ≤ 20) : xS T05 (n + 20) fW.scope (S7 L (.list (ws (w0 :: wl))) a b t o x y d g h []) (bW 12) = some (.next (S8 L (.list (ws (w0 :: wl))) a b t o x y d g h (.str (w0.drop (w0.length - 1))) [])) := by
  have e1 : cItem (kc (.list (ws (w0 :: wl)))) (kc (.int 0)) = some (true, .str w0) := cItem_go (a := .list (ws (w0 :: wl))) (f := true) rfl rfl (sub_list (i := 0) rfl (by rw [ws_len]; (first | with_reducible exact Nat.le_trans (by assumption) (by decide) | lia | omega)))
  have e2 : cutP (true, .str w0) (some (.int (-1))) none = some (true, .str (w0.drop (w0.length - 1))) := by
    have := cutP_go (a := (true, .str w0)) (l := some (.int (-1))) (lo := some (-1)) ((bound_int (-1)).trans (if_pos (by decide))) bound_none (cut_str (w := w0) (lo := some (-1)) (hi := none) (by (first | with_reducible exact Nat.le_trans (by assumption) (by decide) | lia | omega)))
    rw [cut_last] at this
    exact this
  exact (la_12 (n := n)).trans ((cAsg_go (bind_go e1 e2)).trans (by kernel_rfl))
theorem wlE_go {wl : List Wd} {p : Wd} (hl : wl.length ≤ 20) : wlE (.list (ws wl)) (.str p) = some (true, .list (ws (addW wl p))) := by
  have h := ifE_go (y := p) (wl := wl) (m := .P)
  have h2 := addW_go (y := p) (m := .P) hl
  rw [← h] at h2
  exact h2
theorem st13 {n : Nat} {L a b o' x y d g h : PV} {wl o : List Wd} {t p : Wd} (G : Bgs (addW wl p) o) (K : Wk (addW wl p)) (hw : wl.length ≤ 4) (ht : t.length ≤ 8) : xS T05 (n + 400) fW.scope (S8 L (.list (ws wl)) a b (.str t) o' x y d g h (.str p) []) (bW 13) = some (.next (S8 L (.list (ws wl)) a b (.str t) o' x y d g h (.str p) [("more", .P, dic (tE5 o (addW wl p) t))])) := by
  have hl := addW_len wl p
  have e2 := ends_C (n := n + 27) (b := kc (.str t)) G K (addW_ne _ _) (by (first | with_reducible exact Nat.le_trans (by assumption) (by decide) | lia | omega)) ht (wlE_go (by (first | with_reducible exact Nat.le_trans (by assumption) (by decide) | lia | omega))) rfl
  rw [show n + 27 + 370 = n + 380 + 17 from rfl] at e2
  exact (la_13 (n := n + 380)).trans ((cAsg_go e2).trans (by kernel_rfl))
theorem occ_one (c : Nat) : ∀ t : Wd, occ [c] t = t.countP (· == c)
  | [] => rfl
  | a :: t => by
    show (if [c] <+: a :: t then 1 else 0) + occ [c] t = _
    rw [occ_one c t, List.countP_cons, Nat.add_comm]
    refine congrArg (t.countP (· == c) + ·) (if_iff ⟨fun h => ?_, fun h => ?_⟩)
    · rw [(List.cons_prefix_cons.mp h).1]; exact beq_self_eq_true a
    · rw [eq_of_beq h]; exact List.cons_prefix_cons.mpr ⟨rfl, List.nil_prefix⟩
theorem st14 {n : Nat} {L w a b o' x y d g h : PV} {o wl : List Wd} {t : Wd} {c : Nat} (G : Bgs wl o) (hc : [c] ∈ wl) : xS T05 (n + 20) fW.scope (S8 L w a b (.str t) o' x y d g h (.str [c]) [("more", .P, dic (tE5 o wl t))]) (bW 14) = some (.ret (.bool true)) := by
  have e : (meth1 (Str.ofString "count") (.str t) (.str [c])).bind (fun v => some (true, v)) = some (true, PV.int (occ [c] t : Nat)) := by
    have e0 : meth1 (Str.ofString "count") (.str t) (.str [c]) = some (.int (t.countP (· == c) : Nat)) := by kernel_rfl
    rw [e0, occ_one]; rfl
  have e1 : cCmpE .Eq (gE (tE5 o wl t) [c]) (cBin .Mult (kc (.int 2)) ((meth1 (Str.ofString "count") (.str t) (.str [c])).bind fun v => some (true, v))) = some (true, .bool true) := by
    rw [e, twice_F, gE_go, tE5_often G hc nofun]
    refine cCmpE_go rfl rfl ?_
    have e2 : ∀ i : Int, evalCmp .Eq (.int i) (.int i) = some (i == i) := fun i => by kernel_rfl
    rw [e2, beq_self_eq_true]
  refine (la_14 (n := n)).trans (cRt_go ?_)
  rw [lastA_go e1]; rfl
theorem back {n : Nat} {L a b : PV} {wl o : List Wd} {t : Wd} (K : Wk wl) (hn : wl ≠ []) (hl : wl.length ≤ 4) (ht : t.length ≤ 8) (G : Bgs wl o) :
    xSs T05 (n + 496) fW.scope (S3 L (.list (ws wl)) a b (.str t) (.list (ws o)) []) (bW 4 :: bW 5 :: bW 6 :: bW 7 :: bW 8 :: bW 9 :: bW 10 :: bW 11 :: bW 12 :: bW 13 :: bW 14 :: []) = some (.ret (.bool true)) := by
  have h5 : wl.length ≤ 5 := Nat.le_succ_of_le hl
  have hx : ∀ x ∈ wl, x.length ≤ 3 := fun x h => (K.ok x h).2
  obtain ⟨x, y, d, e5⟩ := st5 (n := n + 258) (L := L) (w := .list (ws wl)) (a := a) (b := b) (t := .str t) hn hx G
  obtain ⟨o2, G2, _⟩ := bg_run (n := 0) (wl := wl.map List.reverse) (by rw [List.length_map]; exact h5) (fun x h => (K.rev.ok x h).2)
  cases wl with
  | nil => exact absurd rfl hn
  | cons w0 r =>
    obtain ⟨hw0, hw3⟩ := K.ok w0 (.head _)
    obtain ⟨c, hc⟩ := last_one hw0
    have K3 : Wk (addW (w0 :: r) [c]) := K.add ⟨nofun, by show 1 ≤ 3; decide⟩
    have hl3 := addW_len (w0 :: r) [c]
    obtain ⟨o3, G3, _⟩ := bg_run (n := 0) (wl := addW (w0 :: r) [c]) (by (first | with_reducible exact Nat.le_trans (by assumption) (by decide) | lia | omega)) (fun x h => (K3.ok x h).2)
    have e12 := st12 (n := n + 467) (L := L) (a := a) (b := b) (t := .str t) (o := .list (ws o)) (x := x) (y := y) (d := dF (fun u => occ u t) (w0 :: r)) (g := dic (tE5 o (w0 :: r) t)) (h := dic (tE5 o2 ((w0 :: r).map List.reverse) t.reverse)) (wl := r) hw3 (by (first | with_reducible exact Nat.le_trans (by assumption) (by decide) | lia | omega))
    rw [hc] at e12
    refine ss_step (n := n + 495) rfl (st4 (n := n + 435) K hn h5 G) (ss_step (n := n + 494) rfl e5 (ss_step (n := n + 493) rfl (st6 (n := n + 93) G K hn h5 ht) (ss_step (n := n + 492) rfl (la_7 (n := n + 472)) (ss_step (n := n + 491) rfl (st8 (n := n + 391) K h5 ht) (ss_step (n := n + 490) rfl (st9 (n := n + 290) G K h5 ht) (ss_step (n := n + 489) rfl (st10 (n := n + 89) G2 K hn h5 ht) (ss_step (n := n + 488) rfl (st11 (n := n + 388) G2 K h5) (ss_step (n := n + 487) rfl e12 (ss_step (n := n + 486) rfl (st13 (n := n + 86) G3 K3 hl ht) (ss_ret (n := n + 485) rfl (st14 (n := n + 465) G3 ?_)))))))))))
    exact mem_addW.mpr (.inr rfl)
theorem run05 (ns : List Int) (hl : ns.length ≤ 63) : ∃ fn, tabLook "law" T05 = some fn ∧ fn.const = none ∧ xCall T05 (500 + 1) fn [(.B, .list (ns.map .int))] = some (.bool true) := by
  obtain ⟨wl, a, b, t, o, K, hn, h4, ht, G, go⟩ := front (n := 0) hl
  exact ⟨fW, by kernel_rfl, by kernel_rfl, call_go (by kernel_rfl) (vars := [("script", .B, .list (nums ns))]) (by kernel_rfl) (go _ (back (n := 0) K hn h4 ht G))⟩
end Mine
namespace Mine
open PySem PySem.Calls PyProof.Rows PySem.W PySem.SeqAt
noncomputable def fEv : Fn := (entZ T05 4).2
noncomputable def evS (i : Nat) : Stmt := nthS fEv.body i
noncomputable def evT : Expr := testOf (nthS (loopB (evS 1)) 0)
noncomputable def evC : Stmt := nthS (thenOf (nthS (loopB (evS 1)) 0)) 0
noncomputable def evA : Expr := match evC with | .Expr (.Call _ [e] _ _) _ => e | _ => noE
theorem bEv : fEv.body = evS 0 :: evS 1 :: evS 2 :: [] := by kernel_rfl
theorem evFor : evS 1 = .For (.Name "word" ⟨50, 8, 50, 12⟩) (.Name "found" ⟨50, 16, 50, 21⟩) [.If evT [evC] [] ⟨51, 8, 52, 50⟩] [] ⟨50, 4, 52, 50⟩ := by kernel_rfl
theorem evCall : evC = .Expr (.Call (.Attribute (.Name "found" ⟨52, 12, 52, 17⟩) "extend" ⟨52, 12, 52, 24⟩) [evA] [] ⟨52, 12, 52, 50⟩) ⟨52, 12, 52, 50⟩ := by kernel_rfl
noncomputable def VE (l : List Wd) (r : Vars) : Vars := ("found", .O, .list (ws l)) :: r
theorem ev_0 : xS [] 40 fEv.scope [] (evS 0) = some (.next (VE [[97], [98]] [])) := by kernel_rfl
theorem ev_t {l : List Wd} {q : Wd} : xT [] 40 fEv.scope (VE l [("word", .P, .str q)]) evT = cCmpT .Lt (lenE (.str q)) (kc (.int 3)) := by kernel_rfl
theorem ev_a {l : List Wd} {q : Wd} : xEs [] 40 fEv.scope (VE l [("word", .P, .str q)]) [evA] = ((two0 (cBin .Add (kc (.str q)) (kc (.str [97]))) (cBin .Add (kc (.str q)) (kc (.str [98])))).bind listP).bind fun v => some [v] := by kernel_rfl
theorem ev_r {l : List Wd} {q : PV} : xS [] 40 fEv.scope (VE l [("word", .P, q)]) (evS 2) = some (.ret (.list (ws l))) := by kernel_rfl
noncomputable def grw : Nat → Nat → List Wd → Option (List Wd)
  | 0, _, _ => none
  | f + 1, i, l => match l[i]? with
    | none => some l
    | some q => grw f (i + 1) (if q.length < 3 then l ++ [q ++ [97], q ++ [98]] else l)
theorem grw_ev : grw 20 0 [[97], [98]] = some evL := by decide
section
variable {hb : Heap} {A : Around} {env : Env} {pb nb : Addr → Prop} {lent : Addr} {s : Shared}
theorem ws_ok (l : List Wd) : okItems (.list (ws l)) = true := ws_imms l
theorem ext_call {l ys : List Wd} {d : Addr} {cv : Value} {E : Value → Shared → Prop} {Q : Value → Shared → Prop} (hl : l.length ≤ 40) (hy : ys.length ≤ 2) (r : VRep s.heap (fun b => b = d) (.list (ws l)) (.ref d)) (ry : VRep s.heap (fun _ => True) (.list (ws ys)) cv)
    (q : ∀ h'', VRep h'' (fun b => b = d) (.list (ws (l ++ ys))) (.ref d) → Heap.SameBut d s.heap h'' → Q .none { s with heap := h'' }) : wpAny (model prog w) A (call (.builtin "list.extend") [.ref d, cv]) Q E s := by
  obtain ⟨items, k, hd, ha⟩ := own_list r (ws_ok l)
  obtain ⟨b, items2, rfl, _, ⟨m, hb2⟩, ha2⟩ := ry.list_inv
  have e1 : l.length = items.size := by have := (ha fun _ => True).length; rw [ws_len] at this; simpa using this
  have e2 : ys.length = items2.size := by have := ha2.length; rw [ws_len] at this; simpa using this
  have hz : items.size + items2.size ≤ sizeLine := by rw [sizeLine_eq]; (first | with_reducible exact Nat.le_trans (by assumption) (by decide) | lia | omega)
  refine call_meets F.slot_list_extend ⟨_, hd, rfl⟩ F.entry_list_extend (F.args_list_extend_2 _ _) (AutoSeq1.list_extend_list_list_0 d items k b items2 m (extend_door hz) (Nat.le_trans (Nat.le_add_right _ _) hz) (Nat.le_succ_of_le hz)) ⟨hd, hb2, q _ (own_new hd (ha _) fun ha' => ?_) (Heap.SameBut.update ..)⟩
  rw [Array.toList_append, ws_app]
  exact (ha' _).append ((imms_any (ok' := fun _ => False) (ws_imms ys) ha2).kp (kp_sameBut (Heap.SameBut.update ..) ⟨_, hd, .inl ⟨_, _, rfl⟩⟩ (list_notTup ⟨k, hd⟩)) fun _ f => f.elim)
theorem list_go {α : Type} {target : Expr} {I D : Addr} {i : Nat} {items : Array Value} {v : Value} {f : Option Value → Sem α} {k : Value → Sem α} {Q : α → Shared → Prop} {E : Value → Shared → Prop} (hit : s.heap.IsListIter I D i) (hl : s.heap.IsList D items) (hx : items[i]? = some v)
    (hf : ∀ v, f (some v) = (letOwnedTupleGo target (.ref I) v >>= fun _ => k v)) (q : ∀ h', h'.IsListIter I D (i + 1) → Heap.SameBut I s.heap h' → wpAny (model prog w) A (k v) Q E { s with heap := h' }) :
    wpAny (model prog w) A (pyNext (.ref I)) (fun r s₁ => wpAny (model prog w) A (f r) Q E s₁) E s :=
  wpAny_pyNext_list_item hit hl hx fun h' hit' hs' => by
    rw [hf]
    have hq := q h' hit' hs'
    obtain ⟨o, ho, hc, _⟩ := hit'
    exact wpAny_bind (letGo_plain (s := { s with heap := h' }) ho hc (by decide) hq)
noncomputable def wordV (r : Vars) : Prop := ∃ q : PV, r = [(("word" : Str), (Mode.P, q))]
theorem ownW : ownK fEv.scope "word" = true := by kernel_rfl
theorem setW {l : List Wd} {r : Vars} {x : PV} (hr : r = [] ∨ wordV r) : setV "word" (.P, x) (VE l r) = VE l [("word", .P, x)] := by
  rcases hr with rfl | ⟨q, rfl⟩ <;> kernel_rfl
theorem setFo {l l' : List Wd} {r : Vars} : setV "found" (.O, .list (ws l')) (VE l r) = VE l' r := by kernel_rfl
theorem lookFo {l : List Wd} {r : Vars} : look "found" (VE l r) = some (.O, .list (ws l)) := by kernel_rfl
theorem fo_parts : readK fEv.scope "found" = true ∧ oddName "found" = false := ⟨by kernel_rfl, by kernel_rfl⟩
theorem grow_body (ih : Snd [] hb 40) (rm : Room A 40) {l : List Wd} {q : Wd} {val : Str → Option Value} {D : Addr} (hl : l.length ≤ 40) (hq : q.length ≤ 100) (F : Frame hb fEv.scope env pb nb lent (VE l [("word", .P, .str q)]) val s.heap) (hD : val "found" = some (.ref D))
    {E : Value → Shared → Prop} {Q : Flow → Shared → Prop}
    (k : ∀ h' tk, Frame hb fEv.scope env pb nb lent (VE (if q.length < 3 then l ++ [q ++ [97], q ++ [98]] else l) [("word", .P, .str q)]) val h' → Adv (Wr fEv.scope env (VE l [("word", .P, .str q)]) val) s.heap (Wr fEv.scope env (VE (if q.length < 3 then l ++ [q ++ [97], q ++ [98]] else l) [("word", .P, .str q)]) val) h' → (∀ b o, b ≠ D → s.heap.get? b = some o → h'.get? b = some o) → Q .next { s with heap := h', toks := tk }) :
    wpAny (model prog w) A (execs [.If evT [evC] [] ⟨51, 8, 52, 50⟩] env) Q E s := by
  have et : xT [] 40 fEv.scope (VE l [("word", .P, .str q)]) evT = some (decide (q.length < 3)) := ev_t.trans (cCmpT_go (b := .int ((3 : Nat) : Int)) (lenE_str (Nat.le_trans hq (by decide))) rfl lt_nat)
  refine wpAny_execs_cons (wpAny_If (ih.t A fEv.scope env _ _ s evT _ rm et F.reads F.fresh E _ fun h1 tk1 st1 => ?_))
  by_cases h3 : q.length < 3
  · rw [decide_eq_true h3]
    rw [if_pos h3] at k
    show wpAny _ _ (execs [evC] env) _ _ _
    rw [evCall]
    have ea : xEs [] 40 fEv.scope (VE l [("word", .P, .str q)]) [evA] = some [(true, .list (ws [q ++ [97], q ++ [98]]))] := by
      refine ev_a.trans (bind_go (bind_go (two_go (add_let (Nat.le_trans hq (by decide))) (add_let (Nat.le_trans hq (by decide)))) rfl) rfl)
    have F1 := F.stays st1
    refine wpAny_execs_cons (wpAny_Expr (meth_call (n := 40) (sc := fEv.scope) (vars := VE l [("word", .P, .str q)]) (T := []) rfl (by decide) ea (by decide) (F1.name (s := { s with heap := h1, toks := tk1 }) fo_parts.1 fo_parts.2 lookFo fun co hco hs => ?_)) (int_of F.kind) rfl)
    rw [hD] at hco
    cases hco
    obtain ⟨hi, y, e, r0, _⟩ := hs.own rfl
    cases e
    obtain ⟨items, m, hd, _⟩ := own_list r0 hi
    refine ⟨"list", "list.extend", PySem.F.plainAttrs_list, PySem.F.slot_list_extend, PySem.F.type_list_extend, ⟨_, hd, rfl⟩, fun a e => by cases e; exact ⟨_, hd, rfl⟩, ih.es A fEv.scope env _ _ { s with heap := h1, toks := tk1 } [evA] _ rm ea F1.reads F1.fresh ⟨52, 12, 52, 50⟩ E _ fun cs h2 tk2 st2 vr => ?_⟩
    obtain ⟨cv, cs, rfl, rv, rr⟩ := (vr.all (q := false) nofun _ .T).cons_inv
    obtain rfl := rr.nil_inv
    refine ext_call (ys := [q ++ [97], q ++ [98]]) (s := { s with heap := h2, toks := tk2 }) hl (Nat.le_refl 2) (r0.stays st2 fun _ x => x) rv fun h3' r3 hs3 => ?_
    obtain ⟨F3, adv3⟩ := (F1.stays st2).upd (v' := .list (ws (l ++ [q ++ [97], q ++ [98]]))) lookFo rfl hD rfl (fun b o e ne => (hs3.2 b ne).trans e) (sameBut_ex hs3 r3.ref_some.some) (ws_ok _) r3
    rw [setFo] at F3 adv3
    exact wpAny_execs_nil (wpAny_execs_nil (k h3' tk2 F3 ((Adv.stays st1).trans ((Adv.stays st2).trans adv3)) fun b o ne e => (hs3.2 b ne).trans (st2 b o (st1 b o e))))
  · rw [decide_eq_false h3]
    rw [if_neg h3] at k
    exact wpAny_execs_nil (wpAny_execs_nil (k h1 tk1 (F.stays st1) (Adv.stays st1) fun b o _ e => st1 b o e))
theorem grow_loop (ih : Snd [] hb 40) (rm : Room A 40) {D I : Addr} (hbI : hb.get? I = none) (hpI : pb I ∧ nb I) (hDI : D ≠ I) {its : List Wd} : ∀ (f i : Nat) (l : List Wd) (r : Vars) (val : Str → Option Value) (s : Shared), grw f i l = some its → l.length + 2 * f ≤ 42 → (∀ q ∈ l, q.length + f ≤ 60) →
    Frame hb fEv.scope env pb nb lent (VE l r) val s.heap → val "found" = some (.ref D) → s.heap.IsListIter I D i → ¬ Wr fEv.scope env (VE l r) val I → (r = [] ∧ i < l.length ∨ wordV r) →
    ∀ (R : Result → Shared → Prop), (∀ r' val' h' tk, wordV r' → Frame hb fEv.scope env pb nb lent (VE its r') val' h' → Adv (fun a => Wr fEv.scope env (VE l r) val a ∨ a = I) s.heap (fun a => Wr fEv.scope env (VE its r') val' a) h' → R (.ok .next) { s with heap := h', toks := tk }) →
    codeAny (model prog w) A (.forLoop (.Name "word" ⟨50, 8, 50, 12⟩) (.ref I) [.If evT [evC] [] ⟨51, 8, 52, 50⟩] [] env) R s
  | 0, i, l, r, val, s, hg, _, _, _, _, _, _, _, _, _ => by cases hg
  | f + 1, i, l, r, val, s, hg, hsz, hqs, F, hD, hit, hnI, hr, R, k => by
    refine codeAny_of_tree ?_
    show wpAny _ A ((forTurn (.Name "word" ⟨50, 8, 50, 12⟩) (.ref I) [.If evT [evC] [] ⟨51, 8, 52, 50⟩] [] env).onRaise (fun x => do noteFrame x env; theTreesLotGoes x)) _ _ s
    refine wpAny_noted ?_
    simp only [forTurn]
    refine wpAny_bind (wpAny_standAt (wpAny_bind (wpAny_onRaise ?_)))
    obtain ⟨co, hco, hs⟩ := F.slots "found" .O (.list (ws l)) lookFo
    rw [hD] at hco
    cases hco
    obtain ⟨hi, y, e, r0, _⟩ := hs.own rfl
    cases e
    obtain ⟨items, m, hd, ha⟩ := own_list r0 hi
    have hlist : s.heap.IsList D items := ⟨_, hd, rfl, m, rfl⟩
    have hlen : l.length = items.size := by have := (ha fun _ => True).length; rw [ws_len] at this; simpa using this
    have hItI : ItOb s.heap I := by obtain ⟨o, ho, _, h2⟩ := hit; exact ⟨o, _, ho, h2⟩
    cases hx : l[i]? with
    | none =>
      have hg' : some l = some its := by
        have : grw (f + 1) i l = some l := by show (match l[i]? with | none => some l | some q => _) = _; rw [hx]
        exact this.symm.trans hg
      have hi' : l.length ≤ i := List.getElem?_eq_none_iff.mp hx
      have hw : wordV r := hr.resolve_left fun h => absurd h.2 (Nat.not_lt.mpr hi')
      obtain rfl := Option.some.inj hg'
      refine wpAny_pyNext_list_end rm.h hit hlist (Array.getElem?_eq_none (hlen ▸ hi')) fun h' he' => wpAny_pure ⟨rfl, codeAny_block (wpAny_execs_nil (k r val h' s.toks hw ?_ ?_))⟩
      · have kp : Kp (fun a => a = I) s.heap h' := kp_its (fun a e => e ▸ hItI) fun b o hb e => he' b o hb e
        exact F.move' kp (fun a e => .inl (e ▸ hItI)) (fun a e => (ex_or (wr := fun a => a = I) (fun b o hb e => he' b o hb e) a e).elim (F.pbf a) fun x => x ▸ hpI.1) (fun a e => e ▸ hbI) (fun _ x _ => x) fun a e => (ex_or (wr := fun a => a = I) (fun b o hb e => he' b o hb e) a e).elim (F.nbf a) fun x => x ▸ hpI.2
      · have kp : Kp (fun a => a = I) s.heap h' := kp_its (fun a e => e ▸ hItI) fun b o hb e => he' b o hb e
        exact ⟨kp.mono fun _ => .inr, fun a e => (ex_or (wr := fun a => a = I) (fun b o hb e => he' b o hb e) a e).imp id .inr, fun _ x => .inl (.inl x)⟩
    | some q =>
      have hg' : grw f (i + 1) (if q.length < 3 then l ++ [q ++ [97], q ++ [98]] else l) = some its := by
        have : grw (f + 1) i l = grw f (i + 1) (if q.length < 3 then l ++ [q ++ [97], q ++ [98]] else l) := by show (match l[i]? with | none => some l | some q => _) = _; rw [hx]
        exact this.symm.trans hg
      have hq : q.length + (f + 1) ≤ 60 := hqs q (List.mem_of_getElem? hx)
      obtain ⟨cv, hcv, rv⟩ := (ha fun a => (pb a ∧ nb a) ∧ ¬ Wr fEv.scope env (VE l r) val a).get (i := i) (x := .str q) (by unfold ws; rw [List.getElem?_map, hx]; rfl)
      have hcv' : items[i]? = some cv := by simpa using hcv
      refine wpAny_mono (list_go hit hlist hcv' (fun v => rfl) fun h1 hit1 hs1 => ?_) (fun _ _ x => x) fun _ _ e => wpAny_standAt e
      have k1 : ∀ b o, ¬ (b = I) → s.heap.get? b = some o → h1.get? b = some o := fun b o hb e => (hs1.2 b hb).trans e
      have hItI1 : ItOb h1 I := by obtain ⟨o, ho, _, h2⟩ := hit1; exact ⟨o, _, ho, h2⟩
      have kp1 : Kp (fun a => a = I) s.heap h1 := kp_its (fun a e => e ▸ hItI) k1
      have ex1 : ∀ a, h1.get? a = none → s.heap.get? a = none := ex_its (wr := fun a => a = I) (fun a e => e ▸ hItI1) k1
      have F1 : Frame hb fEv.scope env pb nb lent (VE l r) val h1 := F.move kp1 (fun a e => .inl (e ▸ hItI)) ex1 (fun a e => e ▸ hbI) (fun _ x _ => x) fun a e => F.nbf a (ex1 a e)
      have rv1 : VRep h1 (fun a => (pb a ∧ nb a) ∧ ¬ Wr fEv.scope env (VE l r) val a) (.str q) cv := by
        cases rv with | str y u hy => exact .str y u hy
      refine wpAny_bind (wpAny_assign_Name (F1.store (s := { s with heap := h1 }) ownW (fun _ x => x) (.inl ⟨rfl, rv1⟩) fun h2 tk2 F2 kp2 ex2 => ?_))
      have w2 : ∀ a, Wr fEv.scope env (setV "word" (.P, .str q) (VE l r)) (setF val "word" cv) a → Wr fEv.scope env (VE l r) val a := fun a x => (Frame.set_wr (hb := hb) (nb := nb) (nb₀ := nb) (.inl ⟨rfl, rv1⟩) a x).elim id fun e => by cases e.1
      rw [setW (hr.imp (·.1) id)] at F2 w2
      have adv12 : Adv (Wr fEv.scope env (VE l r) val) h1 (Wr fEv.scope env (VE l [("word", .P, .str q)]) (setF val "word" cv)) h2 := ⟨kp2, fun a e => .inl (ex2 a e), fun a x => .inl (w2 a x)⟩
      have hD2 : setF val "word" cv "found" = some (.ref D) := hD
      refine wpAny_bind (grow_body (s := { s with heap := h2, toks := tk2 }) ih rm (Nat.le_of_succ_le_succ (Nat.le_of_succ_le_succ (Nat.le_trans (Nat.add_le_add_left (Nat.le_add_left 2 (2 * f)) _) hsz))) (Nat.le_trans (Nat.le_add_right _ _) (Nat.le_trans hq (by decide))) F2 hD2 fun h3 tk3 F3 adv3 ne3 => ?_)
      have tot := adv12.trans adv3
      have hit3 : h3.IsListIter I D (i + 1) := let ⟨o, ho, r⟩ := hit1; ⟨o, ne3 I o hDI.symm (kp2 I o ho (.inl hnI)), r⟩
      refine wpAny_pure ⟨rfl, grow_loop ih rm hbI hpI hDI f (i + 1) _ _ _ { s with heap := h3, toks := tk3 } hg' ?_ ?_ F3 hD2 hit3 (fun x => (tot.wr I x).elim hnI fun e => hItI1.some e) (.inr ⟨_, rfl⟩) R fun r' val' h' tk hw F' adv' => k r' val' h' tk hw F' ?_⟩
      · split
        · rw [List.length_append]; exact Nat.le_trans (Nat.le_of_eq (Nat.add_right_comm _ _ _)) hsz
        · exact Nat.le_of_succ_le (Nat.le_of_succ_le hsz)
      · intro y hy
        split at hy
        · rcases List.mem_append.mp hy with hy | hy
          · exact Nat.le_of_succ_le (hqs y hy)
          · have e : y.length = q.length + 1 := by
              rcases List.mem_cons.mp hy with rfl | hy
              · exact List.length_append
              · rw [List.mem_singleton.mp hy]; exact List.length_append
            rw [e]; exact Nat.le_trans (Nat.le_of_eq (Nat.add_right_comm _ _ _)) hq
        · exact Nat.le_of_succ_le (hqs y hy)
      · exact (show Adv (fun a => Wr fEv.scope env (VE l r) val a ∨ a = I) s.heap (fun a => Wr fEv.scope env (VE l r) val a ∨ a = I) h1 from ⟨kp1.mono fun _ => .inr, fun a e => .inl (ex1 a e), fun _ x => .inl x⟩).trans ((tot.union _).trans adv')
theorem ev_run (ih : Snd [] hb 40) (rm : Room A 40) {val : Str → Option Value} (F : Frame hb fEv.scope env pb nb lent [] val s.heap) {E : Value → Shared → Prop} {Q : Flow → Shared → Prop}
    (q : ∀ f s', After hb fEv.scope env pb nb lent (Wr fEv.scope env [] val) s (.ret (.list (ws evL))) f s' → Q f s') : wpAny (model prog w) A (execs fEv.body env) Q E s := by
  rw [bEv]
  refine wpAny_execs_cons (ih.s A fEv.scope env pb nb lent [] val s (evS 0) _ rm ev_0 F E _ fun f s1 aft => ?_)
  obtain ⟨h1, tk1, rfl, rfl, val1, F1, adv1⟩ := aft
  show wpAny _ _ (execs (evS 1 :: evS 2 :: []) env) _ _ _
  rw [evFor]
  refine wpAny_execs_cons (wpAny_For (F1.name (s := { s with heap := h1, toks := tk1 }) fo_parts.1 fo_parts.2 lookFo fun co hco hs => ?_) (folded_of nofun))
  obtain ⟨hi, D, e, r0, _⟩ := hs.own rfl
  subst e
  obtain ⟨items, m, hd, _⟩ := own_list r0 hi
  refine wpAny_pyIter_list (s := { s with heap := h1, toks := tk1 }) ⟨_, hd, rfl, m, rfl⟩ ?_
  have st := stays_push h1 { cls := .type "list_iterator", data := .fields #[.ref D, .int 0 0] }
  have advp : Adv (Wr fEv.scope env (VE [[97], [98]] []) val1) h1 (fun a => Wr fEv.scope env (VE [[97], [98]] []) val1 a ∨ a = h1.objs.size) (h1.push { cls := .type "list_iterator", data := .fields #[.ref D, .int 0 0] }) :=
    ⟨Kp.of_stays st, fun a e => .inl (none_of_stays st e), fun a e => e.imp id fun e => by rw [e]; exact fresh_none _⟩
  refine grow_loop ih rm (I := h1.objs.size) (D := D) (its := evL) (none_of_stays F1.base (fresh_none _)) ⟨F1.pbf _ (fresh_none _), F1.nbf _ (fresh_none _)⟩ (Nat.ne_of_lt (Heap.lt_size hd)) 20 0 [[97], [98]] [] val1
    { s with heap := h1.push { cls := .type "list_iterator", data := .fields #[.ref D, .int 0 0] }, toks := tk1 } grw_ev (by decide) (by decide) (F1.stays st) hco ⟨_, Heap.get?_push_size _ rfl, rfl, rfl⟩ (fun x => (F1.wr_mut x).some (fresh_none _)) (.inl ⟨rfl, by decide⟩) _ fun r' val' h2 tk2 hw F2 adv2 => ?_
  obtain ⟨u, rfl⟩ := hw
  refine wpAny_execs_cons (ih.s A fEv.scope env pb nb lent _ val' { s with heap := h2, toks := tk2 } (evS 2) _ rm ev_r F2 E _ fun f s3 aft => ?_)
  have a' := q _ _ (aft.trans (adv1.trans (advp.trans adv2)))
  obtain ⟨h3, tk3, rfl, cv, rfl, _⟩ := aft
  exact a'
theorem T05_len : T05.length = 11 := by kernel_rfl
noncomputable def isEv (_ : Str) (fn : Fn) : Prop := ∀ v, fn.const = some v → fn = fEv ∧ v = .list (ws evL)
theorem nconst {x : Str} {fn : Fn} (h : fn.const = none) : isEv x fn := fun v e => by rw [h] at e; cases e
theorem isEv_all : tabAll isEv T05 := tabAll_upto T05_len ⟨⟨⟨⟨⟨⟨⟨⟨⟨⟨⟨trivial, nconst (by kernel_rfl)⟩, nconst (by kernel_rfl)⟩, nconst (by kernel_rfl)⟩, nconst (by kernel_rfl)⟩, fun v h => ⟨by kernel_rfl, Option.some.inj (h.symm.trans (by kernel_rfl))⟩⟩, nconst (by kernel_rfl)⟩, nconst (by kernel_rfl)⟩, nconst (by kernel_rfl)⟩, nconst (by kernel_rfl)⟩, nconst (by kernel_rfl)⟩, nconst (by kernel_rfl)⟩
theorem consts05 (G : Glob T05 hb) : Consts T05 hb := by
  intro x fn v a hT hcon hfn A s pub rm hst hf
  obtain ⟨rfl, rfl⟩ := tabAll_look isEv_all hT v hcon
  have G' : Glob [] hb := ⟨let ⟨mg, mb, a, b, c, _⟩ := G.ns; ⟨mg, mb, a, b, c, fun x fn h => by cases h⟩, G.nolimit⟩
  have ih : Snd [] hb 40 := snd G' leafs (fun x fn v a h => by cases h) 40
  refine fun E Q q => wpAny_call (call_enterB (n := 60) rm (lent := s.heap.objs.size) (as := []) (vals := []) (r := .ret (.list (ws evL))) (pub := pub.p) (vars := []) hfn G.nolimit hst hf (by kernel_rfl)
    (fun env val h tk F E Q q => ev_run ih (rm.deeper.le (by decide)) F q) .nil nofun nofun (.inr nofun) fun cv h' tk k ex ends => q cv h' tk (fun b o e => k b o e (.inr nofun)) fun ok o => ?_)
  rcases o with rfl | rfl | ⟨_, rfl⟩
  · exact ends.1
  · exact ends.2.weaken pub.sub
  · exact ends.2
end
end Mine
open PySem PySem.W PyProof.Rows Mine
set_option maxHeartbeats 8000000
namespace Mine
theorem same05_0 (P : Params) : FnSame (heapK P) 21 (ent T05 0).2 := ⟨by kernel_rfl, by kernel_rfl, by kernel_rfl, by kernel_rfl, by kernel_rfl, by kernel_rfl, by kernel_rfl, by kernel_rfl⟩
theorem same05_1 (P : Params) : FnSame (heapK P) 28 (ent T05 1).2 := ⟨by kernel_rfl, by kernel_rfl, by kernel_rfl, by kernel_rfl, by kernel_rfl, by kernel_rfl, by kernel_rfl, by kernel_rfl⟩
theorem same05_2 (P : Params) : FnSame (heapK P) 37 (ent T05 2).2 := ⟨by kernel_rfl, by kernel_rfl, by kernel_rfl, by kernel_rfl, by kernel_rfl, by kernel_rfl, by kernel_rfl, by kernel_rfl⟩
theorem same05_3 (P : Params) : FnSame (heapK P) 46 (ent T05 3).2 := ⟨by kernel_rfl, by kernel_rfl, by kernel_rfl, by kernel_rfl, by kernel_rfl, by kernel_rfl, by kernel_rfl, by kernel_rfl⟩
theorem same05_4 (P : Params) : FnSame (heapK P) 53 (ent T05 4).2 := ⟨by kernel_rfl, by kernel_rfl, by kernel_rfl, by kernel_rfl, by kernel_rfl, by kernel_rfl, by kernel_rfl, by kernel_rfl⟩
theorem same05_5 (P : Params) : FnSame (heapK P) 60 (ent T05 5).2 := ⟨by kernel_rfl, by kernel_rfl, by kernel_rfl, by kernel_rfl, by kernel_rfl, by kernel_rfl, by kernel_rfl, by kernel_rfl⟩
theorem same05_6 (P : Params) : FnSame (heapK P) 67 (ent T05 6).2 := ⟨by kernel_rfl, by kernel_rfl, by kernel_rfl, by kernel_rfl, by kernel_rfl, by kernel_rfl, by kernel_rfl, by kernel_rfl⟩
theorem same05_7 (P : Params) : FnSame (heapK P) 74 (ent T05 7).2 := ⟨by kernel_rfl, by kernel_rfl, by kernel_rfl, by kernel_rfl, by kernel_rfl, by kernel_rfl, by kernel_rfl, by kernel_rfl⟩
theorem same05_8 (P : Params) : FnSame (heapK P) 81 (ent T05 8).2 := ⟨by kernel_rfl, by kernel_rfl, by kernel_rfl, by kernel_rfl, by kernel_rfl, by kernel_rfl, by kernel_rfl, by kernel_rfl⟩
theorem same05_9 (P : Params) : FnSame (heapK P) 88 (ent T05 9).2 := ⟨by kernel_rfl, by kernel_rfl, by kernel_rfl, by kernel_rfl, by kernel_rfl, by kernel_rfl, by kernel_rfl, by kernel_rfl⟩
theorem same05_10 (P : Params) : FnSame (heapK P) 93 (ent T05 10).2 := ⟨by kernel_rfl, by kernel_rfl, by kernel_rfl, by kernel_rfl, by kernel_rfl, by kernel_rfl, by kernel_rfl, by kernel_rfl⟩
theorem tab05 (P : Params) (h : Heap) (X : (heapK P).In h) : tabAll (fun x fn => (x == ("__debug__" : Str)) = false ∧ ∃ a, nsIn (heapK P) mainGlobals x = some (some (.ref a)) ∧ FnAt h a fn) T05 := by
  exact tabAll_upto T05_len ⟨⟨⟨⟨⟨⟨⟨⟨⟨⟨⟨trivial,
    ⟨by kernel_rfl, 21, by kernel_rfl, fn_plain2 X (same05_0 P) (by kernel_rfl) (by kernel_rfl) (fun v1 v2 => by kernel_rfl)⟩⟩,
    ⟨by kernel_rfl, 28, by kernel_rfl, fn_plain1 X (same05_1 P) (by kernel_rfl) (by kernel_rfl) (fun v1 => by kernel_rfl)⟩⟩,
    ⟨by kernel_rfl, 37, by kernel_rfl, fn_dflt X (same05_2 P) (p1 := "a") (p2 := "x") (p3 := "lo") (p4 := "hi") (p5 := "key") (by kernel_rfl) (u := dfltAt0 (heapK P) 37) (by kernel_rfl) (by kernel_rfl) (fun a => by kernel_rfl) (fun a b c d e r => by kernel_rfl) (fun a b => by kernel_rfl) (fun a b c => by kernel_rfl) (fun a b c d => by kernel_rfl) (fun S v1 v2 => by kernel_rfl) (fun S v1 v2 v3 => by kernel_rfl) (fun S v1 v2 v3 v4 => by kernel_rfl)⟩⟩,
    ⟨by kernel_rfl, 46, by kernel_rfl, fn_dflt X (same05_3 P) (p1 := "a") (p2 := "x") (p3 := "lo") (p4 := "hi") (p5 := "key") (by kernel_rfl) (u := dfltAt0 (heapK P) 46) (by kernel_rfl) (by kernel_rfl) (fun a => by kernel_rfl) (fun a b c d e r => by kernel_rfl) (fun a b => by kernel_rfl) (fun a b c => by kernel_rfl) (fun a b c d => by kernel_rfl) (fun S v1 v2 => by kernel_rfl) (fun S v1 v2 v3 => by kernel_rfl) (fun S v1 v2 v3 v4 => by kernel_rfl)⟩⟩,
    ⟨by kernel_rfl, 53, by kernel_rfl, fn_plain X (same05_4 P) (by kernel_rfl) (fun vals hv => by
      rw [len_nil (hv.trans (show _ = 0 by kernel_rfl))]; kernel_rfl)⟩⟩,
    ⟨by kernel_rfl, 60, by kernel_rfl, fn_plain1 X (same05_5 P) (by kernel_rfl) (by kernel_rfl) (fun v1 => by kernel_rfl)⟩⟩,
    ⟨by kernel_rfl, 67, by kernel_rfl, fn_plain2 X (same05_6 P) (by kernel_rfl) (by kernel_rfl) (fun v1 v2 => by kernel_rfl)⟩⟩,
    ⟨by kernel_rfl, 74, by kernel_rfl, fn_plain2 X (same05_7 P) (by kernel_rfl) (by kernel_rfl) (fun v1 v2 => by kernel_rfl)⟩⟩,
    ⟨by kernel_rfl, 81, by kernel_rfl, fn_plain3 X (same05_8 P) (by kernel_rfl) (by kernel_rfl) (fun v1 v2 v3 => by kernel_rfl)⟩⟩,
    ⟨by kernel_rfl, 88, by kernel_rfl, fn_plain2 X (same05_9 P) (by kernel_rfl) (by kernel_rfl) (fun v1 v2 => by kernel_rfl)⟩⟩,
    ⟨by kernel_rfl, 93, by kernel_rfl, fn_plain1 X (same05_10 P) (by kernel_rfl) (by kernel_rfl) (fun v1 => by kernel_rfl)⟩⟩
theorem free05 (P : Params) : (biNames.all fun x => match nsIn (heapK P) mainGlobals x with | some none => true | _ => false) = true := by kernel_rfl
end Mine
open PySem PySem.W PyProof.Rows Mine
set_option maxRecDepth 100000 in
set_option maxHeartbeats 8000000 in
theorem PySem.Challenge.cw_id0004_05_holds : PySem.Challenge.rw_id0004_05.Holds := by
  refine kTop (good_all ?_)
  unfold Mine.Good goodOf
  intro s₀ s₁ mg mb G Y fa o pm cd doc dV kV ho hd hcd hD hmg hg args vals as hpre hlay hrd hwl hlo
  have KX := kIn_of Y
  refine Ground.open G ?_
  intro T B D TE TW
  try (refine guard_noD D (by decide +kernel) ?_; clear D)
  wrow_args hpre hlay hrd hwl hlo
  refine enter_call ?_
  w_top on
  refine codeAny_mono ?_ (fun _ _ g => GoodW.toG g)
  refine law_claim (T := T05) KX T hmg (by assumption) hg (free05 _) (tab05 _ _ KX) (consts05 (glob_mk KX T (free05 _) (tab05 _ _ KX))) (run05 _ (by omega)) (by decide) (fun cls => ?_) ?_
  · kernel_rfl
  · kernel_rfl
