import PyProof.Rows.All
import Wide.All
import OpenK.AllK
import Wide.FinOn
import Lean
import PySem.Challenge.RW_om0128_02
open PySem PySem.W PyProof.Rows
set_option Elab.async false
set_option maxRecDepth 100000
set_option compiler.extract_closed false
set_option linter.all false

section
set_option genSizeOf false
set_option genInjectivity false
namespace Mine

set_option genInjectivity true in
inductive CV where
  | none
  | bool (b : Bool)
  | int (i : Int)
  | str (s : Str)
  | ref (k : Nat)
  | lit (v : Value)
deriving DecidableEq

set_option genInjectivity true in
inductive CO where
  | list (xs : List CV)
  | tuple (xs : List CV)
  | dictS (es : List (Str × CV)) (ep : Nat)
  | dictI (es : List (Int × CV)) (ep : Nat)
  | set (xs : List Str)
  | inst (C : Addr) (as : List (Str × CV))
  | slots (C : Addr) (as : List (Option CV))
  | liter (k i : Nat)
  | nextm (k : Nat)
  | dead
deriving DecidableEq

inductive Prim where
  | len | int | hex | tupleOf | listOf | sum | sorted | boolOf | iterOf | setNew
  | append | pop | popAt | clear | index | join | split | get | getD | sadd | next
deriving DecidableEq

mutual
inductive CE where
  | const (v : CV)
  | var (i : Nat)
  | glob (v : CV)
  | bin (op : Operator) (a b : CE)
  | neg (a : CE)
  | not (a : CE)
  | cmp (op : CmpOp) (a b : CE)
  | and (a b : CE)
  | or (a b : CE)
  | ite (t a b : CE)
  | walrus (i : Nat) (a : CE)
  | attr (a : CE) (x : Str)
  | sub (a b : CE)
  | slice (a : CE) (lo hi st : Option CE)
  | list (xs : List CE)
  | tuple (xs : List CE)
  | dict0 (s : Bool)
  | prim (p : Prim) (args : List CE)
  | meth (p : Prim) (o : CE) (args : List CE)
  | callf (f : Addr) (pure : Bool) (args : List CE)
  | callm (o : CE) (x : Str) (pure : Bool) (args : List CE) (star : Option CE)
  | new (C : Addr) (args : List CE)
  | comp (elt : CE) (ts : List Nat) (it : CI) (conds : List CE)
inductive CI where
  | plain (e : CE)
  | range (args : List CE)
  | enum (e : CE)
  | zip (a b : CE)
  | values (e : CE)
end

inductive CT where
  | var (i : Nat)
  | vars (is : List Nat)
  | attr (o : CE) (x : Str)
  | sub (o k : CE)
  | subs (o1 k1 o2 k2 : CE)

inductive CS where
  | expr (e : CE)
  | assign (t : CT) (e : CE)
  | assign2 (t1 t2 : CT) (e : CE)
  | aug (i : Nat) (op : Operator) (e : CE)
  | augattr (o : CE) (x : Str) (op : Operator) (e : CE)
  | del (o k : CE)
  | ret (e : CE)
  | ite (t : CE) (a b : List CS)
  | for (t : CT) (it : CI) (body orelse : List CS)
  | while (t : CE) (body orelse : List CS)
  | tryNext (i : Nat) (f : CE) (handler : List CS)
  | never
  | pass
  | brk
  | cont

inductive CF where
  | next | brk | cont
  | ret (v : CV)

set_option genInjectivity true in
structure St where
  loc : List (Option CV)
  heap : List CO
  lo : Nat
  dep : Nat
deriving DecidableEq

noncomputable abbrev M (α : Type) := St → Option (α × St)
noncomputable def rt {α : Type} (a : α) : M α := fun st => some (a, st)
noncomputable def bnd {α β : Type} (c : M α) (k : α → M β) : M β := fun st => match c st with
  | none => none
  | some (a, st') => k a st'
noncomputable def no {α : Type} : M α := fun _ => none
noncomputable def alloc (o : CO) : M CV := fun st => some (.ref st.heap.length, { st with heap := st.heap ++ [o] })
noncomputable def look (v : CV) : M (Nat × CO) := fun st => match v with
  | .ref k => match st.heap[k]? with
    | some o => some ((k, o), st)
    | none => none
  | _ => none
noncomputable def put (k : Nat) (o : CO) : M Unit := fun st => if st.lo ≤ k then some ((), { st with heap := st.heap.set k o }) else none
noncomputable def getL (i : Nat) : M CV := fun st => match st.loc[i]? with
  | some (some v) => some (v, st)
  | _ => none
noncomputable def setL (i : Nat) (v : CV) : M Unit := fun st => if i < st.loc.length then some ((), { st with loc := st.loc.set i (some v) }) else none
noncomputable def guardD {α : Type} (c : M α) : M α := fun st => if st.dep = 0 then none else c st
noncomputable def okIf (b : Bool) : M Unit := fun st => if b then some ((), st) else none

noncomputable def small (i : Int) : Bool := decide (-(2 ^ 62) < i) && decide (i < 2 ^ 62)
noncomputable def lenOk {α : Type} (xs : List α) : Bool := decide (xs.length ≤ 1000000)

noncomputable def binI (op : Operator) (a b : Int) : Option Int := match op with
  | .Add => some (a + b)
  | .Sub => some (a - b)
  | .Mult => if small a && small b then some (a * b) else none
  | .FloorDiv => if decide (0 < b) && decide (b < 1000000) then some (a.fdiv b) else none
  | .Mod => if b = 0 then none else some (a.fmod b)
  | .Pow => if decide (0 ≤ b) && decide (b ≤ 60) && small a then some (a ^ b.toNat) else none
  | .LShift => if decide (0 ≤ b) && decide (b ≤ 60) && small a then some (a * 2 ^ b.toNat) else none
  | .RShift => if decide (0 ≤ b) then some (a.fdiv (2 ^ b.toNat)) else none
  | .BitAnd => some (Builtin.bitAnd a b)
  | .BitOr => some (Builtin.bitOr a b)
  | .BitXor => some (Builtin.bitXor a b)
  | _ => none

noncomputable def binV (op : Operator) (a b : CV) : M CV := match a, b with
  | .int x, .int y => match binI op x y with
    | some z => rt (.int z)
    | none => no
  | .str x, .str y => match op with
    | .Add => if lenOk x.cps.toList && lenOk y.cps.toList then rt (.str (x ++ y)) else no
    | _ => no
  | .ref _, .ref _ => match op with
    | .Add => bnd (look a) fun x => bnd (look b) fun y => match x.2, y.2 with
      | .list xs, .list ys => if lenOk xs && lenOk ys then alloc (.list (xs ++ ys)) else no
      | _, _ => no
    | _ => no
  | _, _ => no

noncomputable def augV (op : Operator) (a b : CV) : M CV := match a, b with
  | .ref _, .ref _ => match op with
    | .Add => bnd (look a) fun x => bnd (look b) fun y => match x.2, y.2 with
      | .list xs, .list ys => if lenOk xs && lenOk ys then bnd (put x.1 (.list (xs ++ ys))) fun _ => rt a else no
      | _, _ => no
    | _ => no
  | .int x, .int y => match op with
    | .Add => rt (.int (x + y))
    | .Sub => rt (.int (x - y))
    | .BitXor => rt (.int (Builtin.bitXor x y))
    | _ => no
  | _, _ => no

noncomputable def isV (v : CV) : Bool := match v with | .ref _ => false | .lit _ => false | _ => true
noncomputable def strsOf : List CV → Option (List Str)
  | [] => some []
  | .str s :: r => (strsOf r).map (s :: ·)
  | _ :: _ => none
noncomputable def intsOf : List CV → Option (List Int)
  | [] => some []
  | .int s :: r => (intsOf r).map (s :: ·)
  | _ :: _ => none
noncomputable def hasS (xs : List CV) (s : Str) : Option Bool := (strsOf xs).map fun ys => ys.any fun y => y == s
noncomputable def hasI (xs : List CV) (i : Int) : Option Bool := (intsOf xs).map fun ys => ys.any fun y => y == i
noncomputable def idxOf (xs : List Str) (x : Str) : Option Nat := match xs with
  | [] => none
  | y :: r => if y = x then some 0 else (idxOf r x).map (· + 1)
noncomputable def idxS (xs : List CV) (s : Str) : Option Nat := (strsOf xs).bind fun ys => idxOf ys s
noncomputable def lkS (es : List (Str × CV)) (s : Str) : Option CV := match es with
  | [] => none
  | e :: r => if e.1 = s then some e.2 else lkS r s
noncomputable def lkI (es : List (Int × CV)) (i : Int) : Option CV := match es with
  | [] => none
  | e :: r => if e.1 = i then some e.2 else lkI r i
noncomputable def putS (es : List (Str × CV)) (s : Str) (v : CV) : List (Str × CV) := match es with
  | [] => [(s, v)]
  | e :: r => if e.1 = s then (s, v) :: r else e :: putS r s v
noncomputable def putI (es : List (Int × CV)) (i : Int) (v : CV) : List (Int × CV) := match es with
  | [] => [(i, v)]
  | e :: r => if e.1 = i then (i, v) :: r else e :: putI r i v
noncomputable def delS (es : List (Str × CV)) (s : Str) : List (Str × CV) := match es with
  | [] => []
  | e :: r => if e.1 = s then r else e :: delS r s

noncomputable def inO (v : CV) (o : CO) : Option Bool := match v, o with
  | .str s, .list xs => hasS xs s
  | .int i, .list xs => hasI xs i
  | .str s, .dictS es _ => some (lkS es s).isSome
  | .int i, .dictI es _ => some (lkI es i).isSome
  | .str s, .set xs => some (decide (s ∈ xs))
  | _, _ => none

noncomputable def allI (es : List (Str × CV)) : Bool := es.all fun e => match e.2 with | .int _ => true | _ => false
noncomputable def eqO (a b : CO) : Option Bool := match a, b with
  | .dictS es _, .dictS fs _ => if allI es && allI fs then some (decide (es.length = fs.length) && es.all fun e => decide (lkS fs e.1 = some e.2)) else none
  | .list xs, .list ys => match strsOf xs, strsOf ys with
    | some x, some y => if x.all PyData.strOk && y.all PyData.strOk then some (decide (x = y)) else none
    | _, _ => none
  | _, _ => none

noncomputable def cmpV (op : CmpOp) (a b : CV) : M CV := match op with
  | .Is => match b with
    | .none => match a with
      | .none => rt (.bool true)
      | .lit _ => no
      | _ => rt (.bool false)
    | _ => no
  | .IsNot => match b with
    | .none => match a with
      | .none => rt (.bool false)
      | .lit _ => no
      | _ => rt (.bool true)
    | _ => no
  | .In => bnd (look b) fun o => match inO a o.2 with
    | some r => rt (.bool r)
    | none => no
  | .NotIn => bnd (look b) fun o => match inO a o.2 with
    | some r => rt (.bool !r)
    | none => no
  | _ => match a, b with
    | .int x, .int y => match op with
      | .Eq => rt (.bool (x == y))
      | .NotEq => rt (.bool (x != y))
      | .Lt => rt (.bool (decide (x < y)))
      | .Gt => rt (.bool (decide (y < x)))
      | .GtE => rt (.bool (decide (y ≤ x)))
      | _ => no
    | .str x, .str y => match op with
      | .Eq => rt (.bool (x == y))
      | .NotEq => rt (.bool (x != y))
      | _ => no
    | .ref _, .ref _ => bnd (look a) fun x => bnd (look b) fun y => match eqO x.2 y.2 with
      | some r => match op with
        | .Eq => rt (.bool r)
        | .NotEq => rt (.bool !r)
        | _ => no
      | none => no
    | _, _ => no

noncomputable def truth (v : CV) : M Bool := match v with
  | .bool b => rt b
  | .int i => rt (i != 0)
  | .none => rt false
  | .ref _ => bnd (look v) fun o => match o.2 with
    | .list xs => if lenOk xs then rt (!xs.isEmpty) else no
    | _ => no
  | _ => no

noncomputable def insI (x : Int) : List Int → List Int
  | [] => [x]
  | y :: r => if x ≤ y then x :: y :: r else y :: insI x r
noncomputable def sortI : List Int → List Int
  | [] => []
  | x :: r => insI x (sortI r)

noncomputable def atI {α : Type} (xs : List α) (i : Int) : Option α :=
  if 0 ≤ i then xs[i.toNat]? else if 0 ≤ i + xs.length then xs[(i + xs.length).toNat]? else none

noncomputable def pick {α : Type} (xs : List α) (lo hi st : Option Int) : List α :=
  let b := sliceBounds lo hi st xs.length
  (sliceRange b.1 b.2.1 b.2.2).filterMap (xs[·]?)

noncomputable def subV (a b : CV) : M CV := match a with
  | .str s => match b with
    | .int i => match (if decide (0 ≤ i) && small i then s.cps.toList[i.toNat]? else none) with
      | some c => rt (.str ⟨#[c]⟩)
      | none => no
    | _ => no
  | _ => bnd (look a) fun o => match o.2, b with
    | .list xs, .int i => match (if small i && lenOk xs then atI xs i else none) with
      | some v => rt v
      | none => no
    | .tuple xs, .int i => match (if small i && lenOk xs then atI xs i else none) with
      | some v => rt v
      | none => no
    | .dictS es _, .str s => match lkS es s with
      | some v => rt v
      | none => no
    | .dictI es _, .int i => match lkI es i with
      | some v => rt v
      | none => no
    | _, _ => no

noncomputable def unk : Nat := 999999
noncomputable def epUp (there : Bool) (ep : Nat) : Nat := if there then ep else if ep = unk then unk else ep + 1
noncomputable def setV (a b v : CV) : M Unit := bnd (look a) fun o => match o.2, b with
  | .list xs, .int i => if decide (0 ≤ i) && decide (i < xs.length) && lenOk xs then put o.1 (.list (xs.set i.toNat v)) else no
  | .dictS es ep, .str s => if lenOk es then put o.1 (.dictS (putS es s v) (epUp (lkS es s).isSome ep)) else no
  | .dictI es ep, .int i => if lenOk es then put o.1 (.dictI (putI es i v) (epUp (lkI es i).isSome ep)) else no
  | _, _ => no

noncomputable def delV (a b : CV) : M Unit := bnd (look a) fun o => match o.2, b with
  | .dictS es _, .str s => if (lkS es s).isSome && lenOk es then put o.1 (.dictS (delS es s) unk) else no
  | _, _ => no

end Mine
end

section
set_option genSizeOf false
set_option genInjectivity false
namespace Mine

structure Fn where
  n : Nat
  va : Bool
  defs : List CV
  ns : Nat
  body : List CS

structure Cls where
  slot : Bool
  init : Addr
  attrs : List Str
  meths : List (Str × Addr)

structure Prog where
  fn : Addr → Option Fn
  cls : Addr → Option Cls
  top : Nat

noncomputable def lkA (as : List (Str × CV)) (x : Str) : Option CV := lkS as x
noncomputable def getA (P : Prog) (v : CV) (x : Str) : M CV := bnd (look v) fun o => match o.2 with
  | .inst C as => match P.cls C with
    | some c => match (if c.slot then none else lkS as x) with
      | some (.lit _) => no
      | some r => rt r
      | none => no
    | none => no
  | .slots C as => match P.cls C with
    | some c => match (if c.slot then idxOf c.attrs x else none) with
      | some i => match as[i]? with
        | some (some (.lit _)) => no
        | some (some r) => rt r
        | _ => no
      | none => no
    | none => no
  | _ => no
noncomputable def setA (P : Prog) (v : CV) (x : Str) (r : CV) : M Unit := bnd (look v) fun o => match o.2 with
  | .inst C as => match P.cls C with
    | some c => if decide (as.length ≤ 100) && !c.slot then put o.1 (.inst C (putS as x r)) else no
    | none => no
  | .slots C as => match P.cls C with
    | some c => match (if c.slot then idxOf c.attrs x else none) with
      | some i => if i < as.length then put o.1 (.slots C (as.set i (some r))) else no
      | none => no
    | none => no
  | _ => no

noncomputable def smallAll (xs : List Int) : Bool := xs.all fun i => decide (-(2 ^ 40) < i) && decide (i < 2 ^ 40)
noncomputable def sumLen (xs : List Str) : Nat := (xs.map (·.length)).sum

noncomputable def primV (p : Prim) (args : List CV) : M CV := match p, args with
  | .len, [a] => bnd (look a) fun o => match o.2 with
    | .list xs => if lenOk xs then rt (.int xs.length) else no
    | .tuple xs => if lenOk xs then rt (.int xs.length) else no
    | _ => no
  | .int, [.int i] => rt (.int i)
  | .hex, [.int i] => if decide ((PySem.baseText "0x" 16 i).length ≤ 1000) then rt (.str (PySem.baseText "0x" 16 i)) else no
  | .tupleOf, [a] => bnd (look a) fun o => match o.2 with
    | .list xs => if lenOk xs then alloc (.tuple xs) else no
    | _ => no
  | .listOf, [a] => bnd (look a) fun o => match o.2 with
    | .tuple xs => if lenOk xs then alloc (.list xs) else no
    | _ => no
  | .sum, [a] => guardD (bnd (look a) fun o => match o.2 with
    | .list xs => match intsOf xs with
      | some ns => if decide (ns.length ≤ 1000) && smallAll ns then rt (.int ns.sum) else no
      | none => no
    | _ => no)
  | .sorted, [a] => bnd (look a) fun o => match o.2 with
    | .list xs => match intsOf xs with
      | some ns => if decide (ns.length < 64) then alloc (.list ((sortI ns).map .int)) else no
      | none => no
    | _ => no
  | .boolOf, [a] => bnd (truth a) fun b => rt (.bool b)
  | .iterOf, [a] => bnd (look a) fun o => match o.2 with
    | .list _ => alloc (.liter o.1 0)
    | _ => no
  | .setNew, [] => alloc (.set [])
  | .append, [a, v] => bnd (look a) fun o => match o.2 with
    | .list xs => if lenOk xs then bnd (put o.1 (.list (xs ++ [v]))) fun _ => rt .none else no
    | _ => no
  | .pop, [a] => bnd (look a) fun o => match o.2 with
    | .list xs => match xs.getLast? with
      | some v => if lenOk xs then bnd (put o.1 (.list (xs.eraseIdx (xs.length - 1)))) fun _ => rt v else no
      | none => no
    | _ => no
  | .popAt, [a, .int i] => bnd (look a) fun o => match o.2 with
    | .list xs => match (if decide (0 ≤ i) && lenOk xs then xs[i.toNat]? else none) with
      | some v => bnd (put o.1 (.list (xs.eraseIdx i.toNat))) fun _ => rt v
      | none => no
    | _ => no
  | .clear, [a] => bnd (look a) fun o => match o.2 with
    | .list xs => if lenOk xs then bnd (put o.1 (.list [])) fun _ => rt .none else no
    | _ => no
  | .index, [a, .str s] => bnd (look a) fun o => match o.2 with
    | .list xs => match (if lenOk xs then idxS xs s else none) with
      | some i => rt (.int i)
      | none => no
    | _ => no
  | .join, [.str x, a] => bnd (look a) fun o => match o.2 with
    | .list xs => match strsOf xs with
      | some ys => if decide (x.length ≤ 64) && decide (ys.length ≤ 10000) && decide (sumLen ys ≤ 1000000) then rt (.str (Txt.join x ys)) else no
      | none => no
    | _ => no
  | .split, [.str x, .str y] => if decide (x.length ≤ 10000) && decide (0 < y.length) then alloc (.list ((Txt.split x y).map .str)) else no
  | .get, [a, k] => bnd (look a) fun o => match o.2, k with
    | .dictS es _, .str s => rt ((lkS es s).getD .none)
    | .dictI es _, .int i => rt ((lkI es i).getD .none)
    | _, _ => no
  | .getD, [a, k, d] => bnd (look a) fun o => match o.2, k with
    | .dictS es _, .str s => rt ((lkS es s).getD d)
    | .dictI es _, .int i => rt ((lkI es i).getD d)
    | _, _ => no
  | .sadd, [a, .str s] => bnd (look a) fun o => match o.2 with
    | .set xs => if decide (xs.length ≤ 1000) then bnd (put o.1 (.set (if s ∈ xs then xs else xs ++ [s]))) fun _ => rt .none else no
    | _ => no
  | .next, [a] => bnd (look a) fun o => match o.2 with
    | .liter _ _ => alloc (.nextm o.1)
    | _ => no
  | _, _ => no

inductive MK where | list | dict | set | str | none
deriving DecidableEq
noncomputable def mkOf : Prim → MK
  | .append => .list
  | .pop => .list
  | .popAt => .list
  | .clear => .list
  | .index => .list
  | .get => .dict
  | .getD => .dict
  | .sadd => .set
  | .join => .str
  | .split => .str
  | _ => .none
noncomputable def kindOk (p : Prim) (v : CV) : M Unit := match v with
  | .str _ => okIf (mkOf p == .str)
  | .ref _ => bnd (look v) fun o => match o.2 with
    | .list _ => okIf (mkOf p == .list)
    | .dictS _ _ => okIf (mkOf p == .dict)
    | .dictI _ _ => okIf (mkOf p == .dict)
    | .set _ => okIf (mkOf p == .set)
    | _ => no
  | _ => no

inductive It where
  | seq (t : Bool) (k i : Nat)
  | rng (xs : List Int)
  | enm (t : Bool) (k i : Nat)
  | zp (k l i : Nat)
  | keys (k ep n i : Nat)
  | vals (k ep n i : Nat)
inductive Item where
  | one (v : CV)
  | two (v w : CV)

noncomputable def seqOf (t : Bool) : CO → Option (List CV)
  | .list xs => if t then none else some xs
  | .tuple xs => if t then some xs else none
  | _ => none
noncomputable def nextI0 (it : It) (st : St) : Option (Option (Item × It)) := match it with
  | .seq t k i => match st.heap[k]?.bind (seqOf t) with
    | some xs => match xs[i]? with
      | some v => some (some (.one v, .seq t k (i + 1)))
      | none => some none
    | none => none
  | .rng xs => match xs with
    | [] => some none
    | x :: r => some (some (.one (.int x), .rng r))
  | .enm t k i => match st.heap[k]?.bind (seqOf t) with
    | some xs => match xs[i]? with
      | some v => some (some (.two (.int i) v, .enm t k (i + 1)))
      | none => some none
    | none => none
  | .zp k l i => match st.heap[k]?.bind (seqOf false), st.heap[l]?.bind (seqOf false) with
    | some xs, some ys => match xs[i]?, ys[i]? with
      | some v, some w => some (some (.two v w, .zp k l (i + 1)))
      | _, _ => some none
    | _, _ => none
  | .keys k ep n i => match st.heap[k]? with
    | some (.dictS es ep') => if ep = ep' ∧ ep ≠ unk ∧ es.length = n then (match es[i]? with
      | some e => some (some (.one (.str e.1), .keys k ep n (i + 1)))
      | none => some none) else none
    | some (.dictI es ep') => if ep = ep' ∧ ep ≠ unk ∧ es.length = n then (match es[i]? with
      | some e => some (some (.one (.int e.1), .keys k ep n (i + 1)))
      | none => some none) else none
    | _ => none
  | .vals k ep n i => match st.heap[k]? with
    | some (.dictS es ep') => if ep = ep' ∧ ep ≠ unk ∧ es.length = n then (match es[i]? with
      | some e => some (some (.one e.2, .vals k ep n (i + 1)))
      | none => some none) else none
    | _ => none

noncomputable def nextI (it : It) (st : St) : Option (Option (Item × It)) := if st.dep = 0 then none else nextI0 it st

noncomputable def rangeL (a b c : Int) : List Int := (List.range (Builtin.Range.rangeSize a b c).toNat).map fun (i : Nat) => a + c * (i : Int)
noncomputable def rOk (a b c : Int) : Bool := Builtin.Range.small a b c && decide (0 ≤ Builtin.Range.rangeSize a b c) && decide (c ≠ 0) && decide (-1000000 < c) && decide (c < 1000000)

structure Ev where
  e : CE → M CV
  t : CE → M Bool
  s : CS → M CF
  b : List CS → M CF
  f : It → CT → List CS → List CS → M CF
  g : It → List Nat → List CE → CE → List CV → M (List CV)
  w : CE → List CS → List CS → M CF
  c : Addr → List CV → M CV

noncomputable def givenV (fn : Fn) (args : List CV) : List CV := args.take fn.n ++ fn.defs.drop (fn.defs.length - (fn.n - (args.take fn.n).length))
noncomputable def boundV (fn : Fn) (args : List CV) (st : St) : List CV := givenV fn args ++ (if fn.va then [CV.ref st.heap.length] else [])
noncomputable def boundH (fn : Fn) (args : List CV) (st : St) : List CO := if fn.va then st.heap ++ [CO.tuple (args.drop fn.n)] else st.heap
section
variable (P : Prog) (self : Ev)
noncomputable def evs : List CE → M (List CV)
  | [] => rt []
  | e :: r => bnd (self.e e) fun v => bnd (evs r) fun vs => rt (v :: vs)
noncomputable def evO : Option CE → M CV
  | none => rt .none
  | some e => self.e e
noncomputable def partI : CV → Option (Option Int)
  | .none => some none
  | .int i => if small i then some (some i) else none
  | _ => none
noncomputable def evI : CI → M It
  | .plain e => bnd (self.e e) fun v => bnd (look v) fun o => match o.2 with
    | .list _ => rt (.seq false o.1 0)
    | .tuple _ => rt (.seq true o.1 0)
    | .dictS es ep => if ep = unk then no else rt (.keys o.1 ep es.length 0)
    | .dictI es ep => if ep = unk then no else rt (.keys o.1 ep es.length 0)
    | _ => no
  | .range args => bnd (evs self args) fun vs => match vs with
    | [.int b] => if rOk 0 b 1 then rt (.rng (rangeL 0 b 1)) else no
    | [.int a, .int b] => if rOk a b 1 then rt (.rng (rangeL a b 1)) else no
    | [.int a, .int b, .int c] => if rOk a b c then rt (.rng (rangeL a b c)) else no
    | _ => no
  | .enum e => bnd (self.e e) fun v => bnd (look v) fun o => match o.2 with
    | .list _ => rt (.enm false o.1 0)
    | .tuple _ => rt (.enm true o.1 0)
    | _ => no
  | .zip a b => bnd (self.e a) fun v => bnd (self.e b) fun w => bnd (look v) fun o => bnd (look w) fun q => match o.2, q.2 with
    | .list _, .list _ => rt (.zp o.1 q.1 0)
    | _, _ => no
  | .values e => bnd (self.e e) fun v => bnd (look v) fun o => match o.2 with
    | .dictS es ep => if ep = unk then no else rt (.vals o.1 ep es.length 0)
    | _ => no
noncomputable def clearL : List Nat → List (Option CV) → List (Option CV)
  | [], l => l
  | i :: r, l => clearL r (l.set i none)
noncomputable def under (n : Nat) : CV → Bool
  | .ref k => decide (k < n)
  | _ => true
noncomputable def flat (n : Nat) : CO → Bool
  | .list xs => xs.all (under n)
  | .tuple xs => xs.all (under n)
  | .dictS es _ => es.all fun e => under n e.2
  | .dictI es _ => es.all fun e => under n e.2
  | _ => false
noncomputable def frozen (c : M CV) : M CV := fun st =>
  let n := st.heap.length
  match c { st with lo := n } with
  | none => none
  | some (v, st') => match v with
    | .ref k => if k < n then some (v, st) else match st'.heap[k]? with
      | some o => if flat n o then some (.ref n, { st with heap := st.heap ++ [o] }) else none
      | none => none
    | _ => some (v, st)
noncomputable abbrev Cp := List CO × List Nat
noncomputable def cpL (f : CV → Cp → Option (CV × Cp)) : List CV → Cp → Option (List CV × Cp)
  | [], a => some ([], a)
  | v :: r, a => match f v a with
    | none => none
    | some (v', a') => match cpL f r a' with
      | none => none
      | some (r', a'') => some (v' :: r', a'')
noncomputable def cpK {K : Type} (f : CV → Cp → Option (CV × Cp)) : List (K × CV) → Cp → Option (List (K × CV) × Cp)
  | [], a => some ([], a)
  | v :: r, a => match f v.2 a with
    | none => none
    | some (v', a') => match cpK f r a' with
      | none => none
      | some (r', a'') => some ((v.1, v') :: r', a'')
noncomputable def cpO (f : CV → Cp → Option (CV × Cp)) : CO → Cp → Option (CO × Cp)
  | .list xs, a => (cpL f xs a).map fun p => (.list p.1, p.2)
  | .tuple xs, a => (cpL f xs a).map fun p => (.tuple p.1, p.2)
  | .dictS es ep, a => (cpK f es a).map fun p => (.dictS p.1 ep, p.2)
  | .dictI es ep, a => (cpK f es a).map fun p => (.dictI p.1 ep, p.2)
  | _, _ => none
noncomputable def cpV (H : List CO) (T : Nat) : Nat → CV → Cp → Option (CV × Cp)
  | 0, .ref k, a => if k < T then some (.ref k, a) else none
  | d + 1, .ref k, a => if k < T then some (.ref k, a) else match H[k]? with
    | none => none
    | some o => match cpO (cpV H T d) o a with
      | none => none
      | some (o', hs, ks) => some (.ref (T + hs.length), hs ++ [o'], ks ++ [k])
  | _, v, a => some (v, a)
noncomputable def topFlat (T : Nat) (H : List CO) : Bool := decide (T ≤ H.length) && (H.take T).all (flat T)
noncomputable def canon (T : Nat) (c : List CV → M CV) (args : List CV) : M CV := fun st =>
  if topFlat T st.heap = true then match cpL (cpV st.heap T 3) args ([], []) with
  | none => none
  | some (args', hs, _) => match c args' { loc := [], heap := st.heap.take T ++ hs, lo := T + hs.length, dep := st.dep } with
    | none => none
    | some (v, st') => match v with
      | .ref k => if k < T then some (v, st) else if k < T + hs.length then none else match st'.heap[k]? with
        | some o => if flat T o then some (.ref st.heap.length, { st with heap := st.heap ++ [o] }) else none
        | none => none
      | _ => some (v, st)
  else none
noncomputable def starOf : Option CE → M (List CV)
  | none => rt []
  | some e => bnd (self.e e) fun v => bnd (look v) fun o => match o.2 with
    | .list xs => rt xs
    | .tuple xs => rt xs
    | _ => no
noncomputable def isSelf (x : Str) (o : CO) : Option Addr := match o with
  | .inst C as => if (lkS as x).isSome then none else some C
  | _ => none
noncomputable def asgItems : List Nat → List CV → M Unit
  | [], [] => rt ()
  | i :: r, v :: vs => bnd (setL i v) fun _ => asgItems r vs
  | _, _ => no

noncomputable def stepE : CE → M CV
  | .const v => rt v
  | .var i => getL i
  | .glob v => rt v
  | .bin op a b => bnd (self.e a) fun x => bnd (self.e b) fun y => binV op x y
  | .neg a => bnd (self.e a) fun x => match x with
    | .int i => rt (.int (-i))
    | _ => no
  | .not a => bnd (self.e a) fun x => bnd (truth x) fun b => rt (.bool !b)
  | .cmp op a b => bnd (self.e a) fun x => bnd (self.e b) fun y => cmpV op x y
  | .and a b => bnd (self.e a) fun x => bnd (truth x) fun c => if c then self.e b else rt x
  | .or a b => bnd (self.e a) fun x => bnd (truth x) fun c => if c then rt x else self.e b
  | .ite t a b => bnd (self.t t) fun c => if c then self.e a else self.e b
  | .walrus i a => bnd (self.e a) fun x => bnd (setL i x) fun _ => rt x
  | .attr a x => bnd (self.e a) fun v => getA P v x
  | .sub a b => bnd (self.e a) fun x => bnd (self.e b) fun y => subV x y
  | .slice a lo hi st => bnd (self.e a) fun x => bnd (evO self lo) fun l => bnd (evO self hi) fun u => bnd (evO self st) fun t => bnd (look x) fun o => match o.2 with
    | .list xs => match partI l, partI u, partI t with
      | some l, some u, some t => if decide (t ≠ some 0) && lenOk xs then alloc (.list (pick xs l u t)) else no
      | _, _, _ => no
    | _ => no
  | .list xs => bnd (evs self xs) fun vs => if lenOk vs then alloc (.list vs) else no
  | .tuple xs => bnd (evs self xs) fun vs => if lenOk vs then alloc (.tuple vs) else no
  | .dict0 s => if s then alloc (.dictS [] 0) else alloc (.dictI [] 0)
  | .prim p args => bnd (evs self args) fun vs => primV p vs
  | .meth p o args => bnd (self.e o) fun v => bnd (kindOk p v) fun _ => bnd (evs self args) fun vs => primV p (v :: vs)
  | .callf f pure args => bnd (evs self args) fun vs => if pure then canon P.top (self.c f) vs else self.c f vs
  | .callm o x pure args star => bnd (self.e o) fun v => bnd (look v) fun q => match (isSelf x q.2).bind P.cls with
    | some c => match c.meths.lookup x with
      | some f => bnd (evs self args) fun vs => bnd (starOf self star) fun ws => if pure then frozen (self.c f (v :: vs ++ ws)) else self.c f (v :: vs ++ ws)
      | none => no
    | none => no
  | .new C args => match P.cls C with
    | some c => bnd (evs self args) fun vs => bnd (alloc (if c.slot then .slots C (c.attrs.map fun _ => none) else .inst C [])) fun v => fun st =>
      if st.dep = 0 then none else match self.c c.init (v :: vs) { st with dep := st.dep - 1 } with
      | some (.none, st') => some (v, { st' with dep := st.dep })
      | _ => none
    | none => no
  | .comp elt ts it conds => bnd (evI self it) fun i => fun st =>
    let n := st.heap.length
    match self.g i ts conds elt [] { st with loc := clearL ts st.loc, lo := n, dep := min st.dep 20 } with
    | none => none
    | some (vs, _) => if vs.all (under n) && lenOk vs then some (.ref n, { st with heap := st.heap ++ [.list vs] }) else none

noncomputable def stepT : CE → M Bool
  | .not a => bnd (self.t a) fun b => rt !b
  | .and a b => bnd (self.t a) fun c => if c then self.t b else rt false
  | .or a b => bnd (self.t a) fun c => if c then rt true else self.t b
  | .ite t a b => bnd (self.t t) fun c => if c then self.t a else self.t b
  | e => bnd (self.e e) truth

noncomputable def asgT (t : CT) (v : CV) : M Unit := match t with
  | .var i => setL i v
  | .vars is => guardD (bnd (look v) fun o => match o.2 with
    | .tuple xs => asgItems is xs
    | _ => no)
  | .attr o x => bnd (self.e o) fun w => setA P w x v
  | .sub o k => bnd (self.e o) fun w => bnd (self.e k) fun i => setV w i v
  | .subs o1 k1 o2 k2 => guardD (bnd (look v) fun o => match o.2 with
    | .tuple [x, y] => bnd (self.e o1) fun w => bnd (self.e k1) fun i => bnd (setV w i x) fun _ => bnd (self.e o2) fun w' => bnd (self.e k2) fun i' => setV w' i' y
    | _ => no)
noncomputable def asgI (t : CT) (it : Item) : M Unit := match t, it with
  | .var i, .one v => setL i v
  | .vars [i, j], .two v w => guardD (bnd (setL i v) fun _ => setL j w)
  | .vars is, .one v => guardD (bnd (look v) fun o => match o.2 with
    | .tuple xs => asgItems is xs
    | _ => no)
  | _, _ => no
noncomputable def tsT : List Nat → CT
  | [i] => .var i
  | is => .vars is

noncomputable def stepS : CS → M CF
  | .expr e => bnd (self.e e) fun _ => rt .next
  | .assign t e => bnd (self.e e) fun v => bnd (asgT P self t v) fun _ => rt .next
  | .assign2 t1 t2 e => bnd (self.e e) fun v => bnd (asgT P self t1 v) fun _ => bnd (asgT P self t2 v) fun _ => rt .next
  | .aug i op e => bnd (getL i) fun x => bnd (self.e e) fun y => bnd (augV op x y) fun z => bnd (setL i z) fun _ => rt .next
  | .augattr o x op e => bnd (self.e o) fun v => bnd (getA P v x) fun old => bnd (self.e e) fun y => bnd (augV op old y) fun z => bnd (setA P v x z) fun _ => rt .next
  | .del o k => bnd (self.e o) fun v => bnd (self.e k) fun i => bnd (delV v i) fun _ => rt .next
  | .ret e => bnd (self.e e) fun v => rt (.ret v)
  | .ite t a b => bnd (self.t t) fun c => if c then self.b a else self.b b
  | .for t it body orelse => bnd (evI self it) fun i => self.f i t body orelse
  | .while t body orelse => self.w t body orelse
  | .tryNext i f handler => bnd (self.e f) fun v => bnd (look v) fun o => match o.2 with
    | .nextm k => bnd (look (.ref k)) fun q => match q.2 with
      | .liter l j => bnd (look (.ref l)) fun r => match r.2 with
        | .list xs => match xs[j]? with
          | some x => bnd (put k (.liter l (j + 1))) fun _ => bnd (setL i x) fun _ => rt .brk
          | none => fun st => if decide (st.lo ≤ k) && decide (20 < st.dep) then (match self.b handler { st with heap := st.heap.set k .dead, dep := 0 } with
            | some (fl, st') => some (fl, { st' with dep := st.dep })
            | none => none) else none
        | _ => no
      | _ => no
    | _ => no
  | .never => no
  | .pass => rt .next
  | .brk => rt .brk
  | .cont => rt .cont

noncomputable def stepB : List CS → M CF
  | [] => rt .next
  | s :: r => bnd (self.s s) fun fl => match fl with
    | .next => self.b r
    | f => rt f

noncomputable def stepF (it : It) (t : CT) (body orelse : List CS) : M CF := fun st => match nextI it st with
  | none => none
  | some none => self.b orelse st
  | some (some (x, it')) => bnd (asgI t x) (fun _ => bnd (self.b body) fun fl => match fl with
    | .brk => rt .next
    | .ret v => rt (.ret v)
    | _ => self.f it' t body orelse) st

noncomputable def allT : List CE → M Bool
  | [] => rt true
  | c :: r => bnd (self.t c) fun b => if b then allT r else rt false

noncomputable def stepG (it : It) (ts : List Nat) (conds : List CE) (elt : CE) (acc : List CV) : M (List CV) := fun st => match nextI it st with
  | none => none
  | some none => some (acc, st)
  | some (some (x, it')) => bnd (asgI (tsT ts) x) (fun _ => bnd (allT self conds) fun ok =>
    if ok then bnd (self.e elt) fun v => self.g it' ts conds elt (acc ++ [v]) else self.g it' ts conds elt acc) st

noncomputable def stepW (t : CE) (body orelse : List CS) : M CF := bnd (self.t t) fun c =>
  if c then bnd (self.b body) fun fl => match fl with
    | .brk => rt .next
    | .ret v => rt (.ret v)
    | _ => self.w t body orelse
  else self.b orelse

noncomputable def stepC (f : Addr) (args : List CV) : M CV := fun st => match P.fn f with
  | none => none
  | some fn =>
    if (givenV fn args).length = fn.n ∧ (fn.va = true ∨ args.length ≤ fn.n) ∧ st.dep ≠ 0 ∧ fn.n + 1 ≤ fn.ns ∧ args.length ≤ 1000 then
      match self.b fn.body { loc := (boundV fn args st).map some ++ List.replicate (fn.ns - (boundV fn args st).length) none, heap := boundH fn args st, lo := st.lo, dep := st.dep - 1 } with
      | none => none
      | some (fl, st') => match fl with
        | .ret v => some (v, { st with heap := st'.heap })
        | .next => some (.none, { st with heap := st'.heap })
        | _ => none
    else none

noncomputable def step : Ev := ⟨stepE P self, stepT self, stepS P self, stepB self, stepF self, stepG self, stepW self, stepC P self⟩
end

noncomputable def ev0 : Ev := ⟨fun _ => no, fun _ => no, fun _ => no, fun _ => no, fun _ _ _ _ => no, fun _ _ _ _ _ => no, fun _ _ _ => no, fun _ _ => no⟩
noncomputable def run (P : Prog) : Nat → Ev
  | 0 => ev0
  | n + 1 => step P (run P n)

theorem nope {α : Type} {r : α} {C : Prop} (h : none = some r) : C := by cases h
theorem if_inv {α : Type} {c : Prop} [Decidable c] {b : M α} {st : St} {r : α × St} (h : (if c then b else no) st = some r) : c ∧ b st = some r := by
  split at h
  · exact ⟨‹_›, h⟩
  · cases h
theorem if_inv2 {α : Type} {c : Prop} [Decidable c] {b : Option α} {r : α} (h : (if c then b else none) = some r) : c ∧ b = some r := by
  split at h
  · exact ⟨‹_›, h⟩
  · cases h
inductive OptR {α β : Type} (c : Option α) (k : α → Option β) (r : β) : Prop
  | intro (z : α) (e : c = some z) (h : k z = some r)
@[elab_as_elim] theorem rt_elim {α : Type} {motive : α → St → Prop} {a b : α} {st st1 : St} (h : some (a, st) = some (b, st1)) (k : motive a st) : motive b st1 := by cases h; exact k
@[elab_as_elim] theorem some_elim {α : Type} {motive : α → Prop} {a b : α} (h : some a = some b) (k : motive a) : motive b := by cases h; exact k
section
variable {α : Type} {st : St} {r : α × St} {co : CO} {v : CV}
inductive On1 {X Y : Type} (co : Y) (mk : X → Y) (f : X → M α) (st : St) (r : α × St) : Prop
  | intro (x : X) (h1 : co = mk x) (h2 : f x st = some r)
inductive On2 {X Z Y : Type} (co : Y) (mk : X → Z → Y) (f : X → Z → M α) (st : St) (r : α × St) : Prop
  | intro (x : X) (z : Z) (h1 : co = mk x z) (h2 : f x z st = some r)
theorem on_list {f : List CV → M α} (h : (match co with | .list x => f x | _ => no) st = some r) : On1 co .list f st r := by
  induction co with
  | list x => exact ⟨x, rfl, h⟩
  | _ => exact nope h
theorem on_tuple {f : List CV → M α} (h : (match co with | .tuple x => f x | _ => no) st = some r) : On1 co .tuple f st r := by
  induction co with
  | tuple x => exact ⟨x, rfl, h⟩
  | _ => exact nope h
theorem on_set {f : List Str → M α} (h : (match co with | .set x => f x | _ => no) st = some r) : On1 co .set f st r := by
  induction co with
  | set x => exact ⟨x, rfl, h⟩
  | _ => exact nope h
theorem on_nextm {f : Nat → M α} (h : (match co with | .nextm x => f x | _ => no) st = some r) : On1 co .nextm f st r := by
  induction co with
  | nextm x => exact ⟨x, rfl, h⟩
  | _ => exact nope h
theorem on_dictS {f : List (Str × CV) → Nat → M α} (h : (match co with | .dictS x y => f x y | _ => no) st = some r) : On2 co .dictS f st r := by
  induction co with
  | dictS x y => exact ⟨x, y, rfl, h⟩
  | _ => exact nope h
theorem on_liter {f : Nat → Nat → M α} (h : (match co with | .liter x y => f x y | _ => no) st = some r) : On2 co .liter f st r := by
  induction co with
  | liter x y => exact ⟨x, y, rfl, h⟩
  | _ => exact nope h
end
end Mine
end

section
set_option genSizeOf false
set_option genInjectivity false
namespace Mine

noncomputable abbrev Rho := List (List Addr)
inductive RefAt (ρ : Rho) (k : Nat) (v : Value) : Prop
  | intro (a : Addr) (as : List Addr) (h1 : ρ[k]? = some (a :: as)) (h2 : v = .ref a)
noncomputable def VRel (ρ : Rho) : CV → Value → Prop
  | .none, v => v = .none
  | .bool b, v => v = .bool b
  | .int i, v => ∃ t, v = .int i t
  | .str s, v => ∃ t, v = .str s t
  | .ref k, v => RefAt ρ k v
  | .lit u, v => v = u
noncomputable def VRels (ρ : Rho) : List CV → List Value → Prop
  | [], [] => True
  | c :: cs, v :: vs => VRel ρ c v ∧ VRels ρ cs vs
  | _, _ => False
noncomputable def KVRel {K : Type} (ρ : Rho) : List (K × CV) → List (K × Value) → Prop
  | [], [] => True
  | c :: cs, v :: vs => c.1 = v.1 ∧ VRel ρ c.2 v.2 ∧ KVRel ρ cs vs
  | _, _ => False
noncomputable def OVRel (ρ : Rho) : Option CV → Option Value → Prop
  | none, v => v = none
  | some c, v => ∃ u, v = some u ∧ VRel ρ c u
noncomputable def OVRels (ρ : Rho) : List (Option CV) → List (Option Value) → Prop
  | [], [] => True
  | c :: cs, v :: vs => OVRel ρ c v ∧ OVRels ρ cs vs
  | _, _ => False

noncomputable def EpIs (ep rep : Nat) : Prop := ep ≠ unk → rep = ep
section
variable (ρ : Rho) (as : List Addr) (os : List Obj)
inductive ShSeq (t : String) (xs : List CV) : Prop
  | intro (a : Addr) (vs : Array Value) (n : Nat) (h1 : as = [a]) (h2 : os = [{ cls := .type t, data := .seq vs n }]) (h3 : VRels ρ xs vs.toList)
inductive ShDict {prog : Program} {w : World} {K : Type} [DecidableEq K] (knd : KeyKind prog w K) (es : List (K × CV)) (ep : Nat) : Prop
  | intro (a : Addr) (o : Obj) (res : Array DictEntry) (kvs : List (K × Value)) (rep : Nat) (h0 : EpIs ep rep) (h1 : as = [a]) (h2 : os = [o]) (h3 : o.ExactDict) (h4 : o.data = .dict res rep) (h5 : KeysOf knd res) (h6 : Pairs knd res.toList kvs) (h7 : (kvs.map (·.1)).Nodup) (h8 : KVRel ρ es kvs)
inductive ShSet (prog : Program) (w : World) (xs : List Str) : Prop
  | intro (a) (o : Obj) (es) (ep) (t) (h1 : as = [a]) (h2 : os = [o]) (h3 : o.ExactSet) (h4 : o.data = .set es ep t) (h5 : ElemsOf (strKind prog w) es.toList) (h6 : ∀ k, decide (k ∈ xs) = true ↔ ∃ e ∈ es.toList, (strKind prog w).is k e.2 = true)
      (h7 : es.size < scanBound) (h8 : t.fits es.size = true) (h9 : es.size ≤ xs.length)
inductive ShInst (prog : Program) (w : World) (C : Addr) (at_ : List (Str × CV)) : Prop
  | intro (a d : Addr) (o : Obj) (res : Array DictEntry) (ep : Nat) (kvs : List (Str × Value)) (h1 : as = [a, d]) (h2 : os = [instObj C d, o]) (h3 : o = { cls := .type "dict", data := .dict res ep }) (h4 : KeysOf (strKind prog w) res) (h5 : Pairs (strKind prog w) res.toList kvs) (h6 : (kvs.map (·.1)).Nodup) (h7 : KVRel ρ at_ kvs)
inductive ShSlots (C : Addr) (at_ : List (Option CV)) : Prop
  | intro (a d : Addr) (sl) (o : Obj) (h1 : as = [a, d]) (h2 : os = [{ cls := .ref C, dict := some d, data := .plain, slots := sl }, o]) (h3 : ∀ (i : Nat) (c : CV), at_[i]? = some (some c) → ∃ v, (sl[i]?).join = some v ∧ VRel ρ c v)
inductive ShIt (o : Addr → Obj) (k : Nat) : Prop
  | intro (a l : Addr) (ls : List Addr) (h1 : as = [a]) (h2 : ρ[k]? = some (l :: ls)) (h3 : os = [o l])
inductive ShDead : Prop
  | intro (a : Addr) (o : Obj) (h1 : as = [a]) (h2 : os = [o])
end
noncomputable def Shape (prog : Program) (w : World) (ρ : Rho) (as : List Addr) (os : List Obj) : CO → Prop
  | .list xs => ShSeq ρ as os "list" xs
  | .tuple xs => ShSeq ρ as os "tuple" xs
  | .dictS es ep => ShDict ρ as os (strKind prog w) es ep
  | .dictI es ep => ShDict ρ as os (intKind prog w) es ep
  | .set xs => ShSet as os prog w xs
  | .inst C at_ => ShInst ρ as os prog w C at_
  | .slots C at_ => ShSlots ρ as os C at_
  | .liter k i => ShIt ρ as os (fun l => { cls := .type "list_iterator", data := .fields #[.ref l, .int i 0] }) k
  | .nextm k => ShIt ρ as os (fun l => { cls := .type "method-wrapper", data := .fields #[.builtin "list_iterator.__next__", .ref l] }) k
  | .dead => ShDead as os

noncomputable def Has (h : Addr → Obj → Prop) : List Addr → List Obj → Prop
  | [], [] => True
  | a :: as, o :: os => h a o ∧ Has h as os
  | _, _ => False
noncomputable def At (h : Heap) (a : Addr) (o : Obj) : Prop := h.get? a = some o

inductive SK where | loc | cell | free | out
deriving DecidableEq
noncomputable abbrev Kinds := List (Str × SK)

structure EnvOk (env : Env) (ks : Kinds) : Prop where
  kind : env.scope.kind = .function
  glob : env.globals = mainGlobals
  blt : env.builtins = builtinsNs
  loc : ∀ (i : Nat) (x : Str), ks[i]? = some (x, SK.loc) → env.kindOf x = some .local
  cell : ∀ (i : Nat) (x : Str), ks[i]? = some (x, SK.cell) → env.kindOf x = some .cell
  free : ∀ (i : Nat) (x : Str), ks[i]? = some (x, SK.free) → env.kindOf x = some .cell
  uniq : ∀ (i j : Nat) (x : Str) (k k' : SK), ks[i]? = some (x, k) → ks[j]? = some (x, k') → k ≠ SK.out → k' ≠ SK.out → i = j
  apart : env.cells.Pairwise fun x y => x.2 ≠ y.2

noncomputable abbrev Bs := Addr → Obj → Prop
noncomputable abbrev own (env : Env) (cs : List Addr) (ρ : Rho) (lo : Nat) : List Addr := env.locals :: cs ++ (ρ.drop lo).flatten

inductive NsAt (env : Env) (ks : Kinds) (ρ : Rho) (loc : List (Option CV)) (h : Heap) : Prop
  | intro (m) (n : h.Ns env.locals m) (r : ∀ (i : Nat) (x : Str) (cv : CV), ks[i]? = some (x, SK.loc) → loc[i]? = some (some cv) → ∃ v, m x = some v ∧ VRel ρ cv v)
inductive CelAt (env : Env) (cs : List Addr) (ρ : Rho) (loc : List (Option CV)) (h : Heap) (i : Nat) (x : Str) : Prop
  | intro (c u) (h1 : env.cells.lookup x = some c) (h2 : c ∈ cs) (h3 : h.IsCell c u) (h4 : ∀ cv, loc[i]? = some (some cv) → ∃ v, u = some v ∧ VRel ρ cv v)
inductive FreAt (B : Bs) (env : Env) (ρ : Rho) (loc : List (Option CV)) (i : Nat) (x : Str) : Prop
  | intro (c o u) (h1 : env.cells.lookup x = some c) (h2 : B c o) (h3 : o.data = .cell u) (h4 : ∀ cv, loc[i]? = some (some cv) → ∃ v, u = some v ∧ VRel ρ cv v)
inductive HasSh (prog : Program) (w : World) (ρ : Rho) (b : Bs) (as : List Addr) (co : CO) : Prop
  | intro (os) (h1 : Has b as os) (h2 : Shape prog w ρ as os co)
structure Rel (prog : Program) (w : World) (B : Bs) (env : Env) (ks : Kinds) (cs : List Addr) (ρ : Rho) (st : St) (h : Heap) : Prop where
  base : ∀ b o, B b o → h.get? b = some o
  len : ρ.length = st.heap.length
  lo : st.lo ≤ st.heap.length
  obj : ∀ (k : Nat) (co : CO) (as : List Addr), st.heap[k]? = some co → ρ[k]? = some as → HasSh prog w ρ (if k < st.lo then B else At h) as co
  nd : (own env cs ρ st.lo).Nodup
  off : ∀ a ∈ own env cs ρ st.lo, ∀ o, ¬ B a o
  ns : NsAt env ks ρ st.loc h
  cel : ∀ (i : Nat) (x : Str), ks[i]? = some (x, SK.cell) → CelAt env cs ρ st.loc h i x
  fre : ∀ (i : Nat) (x : Str), ks[i]? = some (x, SK.free) → FreAt B env ρ st.loc i x
  cin : ∀ c ∈ cs, ∃ u, h.IsCell c u
  glob : ∃ o, B 3 o
  big : ∀ (k : Nat) (as : List Addr), ρ[k]? = some as → ∀ a ∈ as, 3 < a

noncomputable def Ext (ρ ρ' : Rho) : Prop := ∃ e, ρ' = ρ ++ e
theorem Ext.refl (ρ : Rho) : Ext ρ ρ := ⟨[], by simp⟩
theorem Ext.trans {ρ ρ' ρ'' : Rho} (a : Ext ρ ρ') (b : Ext ρ' ρ'') : Ext ρ ρ'' := by
  obtain ⟨e, rfl⟩ := a; obtain ⟨f, rfl⟩ := b; exact ⟨e ++ f, by simp⟩
theorem Ext.get {ρ ρ' : Rho} (a : Ext ρ ρ') {k : Nat} {x} (h : ρ[k]? = some x) : ρ'[k]? = some x := by
  obtain ⟨e, rfl⟩ := a
  have := (List.getElem?_eq_some_iff.mp h).1
  rw [List.getElem?_append_left this]; exact h
section
variable {ρ ρ' : Rho}
theorem VRel.mono (a : Ext ρ ρ') : ∀ {c : CV} {v : Value}, VRel ρ c v → VRel ρ' c v
  | .none, _, h => h
  | .bool _, _, h => h
  | .int _, _, h => h
  | .str _, _, h => h
  | .ref _, _, ⟨x, xs, h, e⟩ => ⟨x, xs, a.get h, e⟩
  | .lit _, _, h => h
theorem VRels.mono (a : Ext ρ ρ') : ∀ {c : List CV} {v : List Value}, VRels ρ c v → VRels ρ' c v
  | [], [], _ => trivial
  | _ :: _, _ :: _, ⟨h, r⟩ => ⟨h.mono a, VRels.mono a r⟩
  | [], _ :: _, h => h.elim
  | _ :: _, [], h => h.elim
theorem KVRel.mono {K : Type} (a : Ext ρ ρ') : ∀ {c : List (K × CV)} {v : List (K × Value)}, KVRel ρ c v → KVRel ρ' c v
  | [], [], _ => trivial
  | _ :: _, _ :: _, ⟨h, r, q⟩ => ⟨h, r.mono a, KVRel.mono a q⟩
  | [], _ :: _, h => h.elim
  | _ :: _, [], h => h.elim
theorem Shape.mono {prog : Program} {w : World} {as : List Addr} {os : List Obj} (a : Ext ρ ρ') {co : CO} (h : Shape prog w ρ as os co) : Shape prog w ρ' as os co := by
  induction co with
  | list _ => exact let ⟨x, vs, n, h, e, r⟩ := h; ⟨x, vs, n, h, e, r.mono a⟩
  | tuple _ => exact let ⟨x, vs, n, h, e, r⟩ := h; ⟨x, vs, n, h, e, r.mono a⟩
  | dictS _ _ => exact let ⟨x, o, res, kvs, rep, h0, h1, h2, h3, h4, h5, h6, h7, r⟩ := h; ⟨x, o, res, kvs, rep, h0, h1, h2, h3, h4, h5, h6, h7, r.mono a⟩
  | dictI _ _ => exact let ⟨x, o, res, kvs, rep, h0, h1, h2, h3, h4, h5, h6, h7, r⟩ := h; ⟨x, o, res, kvs, rep, h0, h1, h2, h3, h4, h5, h6, h7, r.mono a⟩
  | set _ => exact h
  | inst _ _ => exact let ⟨x, d, o, res, ep, kvs, h1, h2, h3, h4, h5, h6, r⟩ := h; ⟨x, d, o, res, ep, kvs, h1, h2, h3, h4, h5, h6, r.mono a⟩
  | slots _ _ => exact let ⟨x, d, sl, o, h1, h2, r⟩ := h; ⟨x, d, sl, o, h1, h2, fun i c e => let ⟨v, e1, e2⟩ := r i c e; ⟨v, e1, e2.mono a⟩⟩
  | liter _ _ => exact let ⟨x, l, ls, h1, h2, h3⟩ := h; ⟨x, l, ls, h1, a.get h2, h3⟩
  | nextm _ => exact let ⟨x, l, ls, h1, h2, h3⟩ := h; ⟨x, l, ls, h1, a.get h2, h3⟩
  | dead => exact h
end
theorem Has.mono {h h' : Bs} : ∀ {as : List Addr} {os : List Obj}, Has h as os → (∀ a ∈ as, ∀ o, h a o → h' a o) → Has h' as os
  | [], [], _, _ => trivial
  | _ :: _, _ :: _, ⟨x, r⟩, k => ⟨k _ (.head _) _ x, Has.mono r fun a ha => k a (.tail _ ha)⟩
  | [], _ :: _, h, _ => h.elim
  | _ :: _, [], h, _ => h.elim
theorem Has.mem {h : Bs} : ∀ {as : List Addr} {os : List Obj}, Has h as os → ∀ a ∈ as, ∃ o, h a o
  | _ :: _, _ :: _, ⟨x, _⟩, _, .head _ => ⟨_, x⟩
  | _ :: _, _ :: _, ⟨_, r⟩, _, .tail _ m => Has.mem r _ m
  | [], _, _, _, m => nomatch m
  | _ :: _, [], h, _, _ => h.elim

section
variable {prog : Program} {w : World} {B : Bs} {env : Env} {ks : Kinds} {cs : List Addr} {ρ : Rho} {st : St} {h h' : Heap}
theorem Rel.keeps (R : Rel prog w B env ks cs ρ st h) (k : ∀ b o, h.get? b = some o → h'.get? b = some o) : Rel prog w B env ks cs ρ st h' where
  base b o e := k _ _ (R.base b o e)
  len := R.len
  lo := R.lo
  obj i co as e1 e2 := by
    obtain ⟨os, ha, hs⟩ := R.obj i co as e1 e2
    refine ⟨os, ?_, hs⟩
    split
    · rename_i q; rw [if_pos q] at ha; exact ha
    · rename_i q; rw [if_neg q] at ha; exact ha.mono fun a _ o e => k _ _ e
  nd := R.nd
  off := R.off
  ns := let ⟨m, n, r⟩ := R.ns; ⟨m, n.keeps k, r⟩
  cel i x e := let ⟨c, u, h1, h2, h3, h4⟩ := R.cel i x e; ⟨c, u, h1, h2, h3.keeps k, h4⟩
  fre := R.fre
  cin c hc := let ⟨u, x⟩ := R.cin c hc; ⟨u, x.keeps k⟩
  glob := R.glob
  big := R.big
theorem Rel.sz (R : Rel prog w B env ks cs ρ st h) : 3 < h.objs.size := let ⟨_, e⟩ := R.glob; Heap.lt_size (R.base _ _ e)
inductive Rel_atR (k : Nat) (co : CO) : Prop
  | intro as os (f1 : ρ[k]? = some as) (f2 : Has (At h) as os) (f3 : Shape prog w ρ as os co)
theorem Rel.at (R : Rel prog w B env ks cs ρ st h) {k : Nat} {co : CO} (e : st.heap[k]? = some co) : Rel_atR (prog := prog) (w := w) (ρ := ρ) (h := h) k co := by
  have hk : k < ρ.length := by rw [R.len]; exact (List.getElem?_eq_some_iff.mp e).1
  obtain ⟨os, ha, hs⟩ := R.obj k co ρ[k] e (List.getElem?_eq_getElem hk)
  refine ⟨ρ[k], os, List.getElem?_eq_getElem hk, ?_, hs⟩
  split at ha
  · exact ha.mono fun a _ o q => R.base _ _ q
  · exact ha
theorem Rel.lt (R : Rel prog w B env ks cs ρ st h) {a : Addr} (ha : a ∈ own env cs ρ st.lo) : a < h.objs.size := by
  rcases List.mem_append.mp ha with ha | ha
  · rcases List.mem_cons.mp ha with rfl | ha
    · obtain ⟨m, n, _⟩ := R.ns; exact n.lt
    · obtain ⟨u, x⟩ := R.cin a ha; exact x.lt
  · obtain ⟨as, has, ha⟩ := List.mem_flatten.mp ha
    obtain ⟨i, hi⟩ := List.mem_iff_getElem?.mp has
    rw [List.getElem?_drop] at hi
    have hk : st.lo + i < st.heap.length := by rw [← R.len]; exact (List.getElem?_eq_some_iff.mp hi).1
    obtain ⟨os, hb, _⟩ := R.obj _ _ as (List.getElem?_eq_getElem hk) hi
    rw [if_neg (Nat.not_lt.mpr (Nat.le_add_right _ _))] at hb
    obtain ⟨o, ho⟩ := hb.mem a ha
    exact Heap.lt_size ho
end
end Mine
end

section
set_option genSizeOf false
set_option genInjectivity false
namespace Mine
section
variable {prog : Program} {w : World} {B : Bs} {env : Env} {ks : Kinds} {cs : List Addr} {ρ : Rho} {st : St} {h h' : Heap}

theorem own_more (hlo : st.lo ≤ ρ.length) (as : List Addr) : own env cs (ρ ++ [as]) st.lo = own env cs ρ st.lo ++ as := by
  unfold own
  rw [List.drop_append_of_le_length hlo]
  simp [List.flatten_append, List.append_assoc]

theorem Rel.alloc (R : Rel prog w B env ks cs ρ st h) (k : ∀ b o, h.get? b = some o → h'.get? b = some o) {as : List Addr} {os : List Obj} {co : CO}
    (hf : ∀ a ∈ as, h.get? a = none ∧ h.objs.size ≤ a) (hn : as.Nodup) (hh : Has (At h') as os) (hs : Shape prog w (ρ ++ [as]) as os co) :
    Rel prog w B env ks cs (ρ ++ [as]) { st with heap := st.heap ++ [co] } h' := by
  have hE : Ext ρ (ρ ++ [as]) := ⟨[as], rfl⟩
  have R' := R.keeps k
  have hlo : st.lo ≤ ρ.length := by rw [R.len]; exact R.lo
  have ho := own_more (env := env) (cs := cs) hlo as
  refine ⟨R'.base, by simp [R.len], by simp; exact Nat.le_succ_of_le R.lo, ?_, ?_, ?_, ?_, ?_, ?_, R'.cin, R.glob, ?_⟩
  · intro i co' as' e1 e2
    dsimp only at e1 ⊢
    by_cases hi : i < st.heap.length
    · rw [List.getElem?_append_left hi] at e1
      rw [List.getElem?_append_left (by rw [R.len]; exact hi)] at e2
      obtain ⟨os', a1, a2⟩ := R'.obj i co' as' e1 e2
      exact ⟨os', a1, a2.mono hE⟩
    · have hi' : st.heap.length ≤ i := Nat.le_of_not_lt hi
      rw [List.getElem?_append_right hi'] at e1
      rw [List.getElem?_append_right (by rw [R.len]; exact hi')] at e2
      have h0 : i - st.heap.length = 0 := by
        cases q : i - st.heap.length with
        | zero => rfl
        | succ n => rw [q] at e1; simp at e1
      have h1 : i - ρ.length = 0 := by rw [R.len]; exact h0
      rw [h0] at e1; rw [h1] at e2
      simp at e1 e2
      subst e1; subst e2
      refine ⟨os, ?_, hs⟩
      rw [if_neg (by have := R.lo; omega)]
      exact hh
  · show (own env cs (ρ ++ [as]) st.lo).Nodup
    rw [ho, List.nodup_append]
    refine ⟨R.nd, hn, fun a ha b hb e => ?_⟩
    subst e
    exact absurd (R.lt ha) (Nat.not_lt.mpr (hf a hb).2)
  · intro a ha o hB
    change a ∈ own env cs (ρ ++ [as]) st.lo at ha
    rw [ho] at ha
    rcases List.mem_append.mp ha with ha | ha
    · exact R.off a ha o hB
    · have := (hf a ha).1
      rw [R.base a o hB] at this; cases this
  · obtain ⟨m, n, r⟩ := R'.ns
    exact ⟨m, n, fun i x cv e1 e2 => let ⟨v, e3, e4⟩ := r i x cv e1 e2; ⟨v, e3, e4.mono hE⟩⟩
  · intro i x e
    obtain ⟨c, u, a1, a2, a3, a4⟩ := R'.cel i x e
    exact ⟨c, u, a1, a2, a3, fun cv e2 => let ⟨v, e3, e4⟩ := a4 cv e2; ⟨v, e3, e4.mono hE⟩⟩
  · intro i x e
    obtain ⟨c, o, u, a1, a2, a3, a4⟩ := R'.fre i x e
    exact ⟨c, o, u, a1, a2, a3, fun cv e2 => let ⟨v, e3, e4⟩ := a4 cv e2; ⟨v, e3, e4.mono hE⟩⟩
  · intro i ai e a ha
    by_cases hi : i < ρ.length
    · rw [List.getElem?_append_left hi] at e
      exact R.big i ai e a ha
    · rw [List.getElem?_append_right (Nat.le_of_not_lt hi)] at e
      have := List.mem_of_getElem? e
      rw [List.mem_singleton] at this
      subst this
      exact Nat.lt_of_lt_of_le R.sz (hf a ha).2

theorem mem_own_obj {k : Nat} {as : List Addr} (hk : ρ[k]? = some as) (hlo : st.lo ≤ k) {a : Addr} (ha : a ∈ as) : a ∈ (ρ.drop st.lo).flatten := by
  refine List.mem_flatten.mpr ⟨as, List.mem_iff_getElem?.mpr ⟨k - st.lo, ?_⟩, ha⟩
  rw [List.getElem?_drop]
  rw [show st.lo + (k - st.lo) = k from Nat.add_sub_of_le hlo]; exact hk

theorem flat_apart : ∀ {l : List (List Addr)} {i j : Nat} {a b : List Addr}, l.flatten.Nodup → l[i]? = some a → l[j]? = some b → i ≠ j → ∀ x ∈ a, x ∉ b
  | [], _, _, _, _, _, h, _, _, _, _ => by simp at h
  | c :: r, i, j, a, b, hn, hi, hj, ne, x, hx => by
    rw [List.flatten_cons, List.nodup_append] at hn
    cases i with
    | zero =>
      cases j with
      | zero => exact absurd rfl ne
      | succ j =>
        simp at hi hj
        subst hi
        intro hb
        exact hn.2.2 x hx x (List.mem_flatten.mpr ⟨b, List.mem_of_getElem? hj, hb⟩) rfl
    | succ i =>
      cases j with
      | zero =>
        simp at hi hj
        subst hj
        intro hb
        exact hn.2.2 x hb x (List.mem_flatten.mpr ⟨a, List.mem_of_getElem? hi, hx⟩) rfl
      | succ j =>
        simp at hi hj
        exact flat_apart hn.2.1 hi hj (fun e => ne (by rw [e])) x hx

theorem Rel.update (R : Rel prog w B env ks cs ρ st h) {k : Nat} {co co' : CO} {as : List Addr} {os' : List Obj} (hk : ρ[k]? = some as) (hc : st.heap[k]? = some co) (hlo : st.lo ≤ k)
    (kp : ∀ b o, b ∉ as → h.get? b = some o → h'.get? b = some o) (hh : Has (At h') as os') (hs : Shape prog w ρ as os' co') :
    Rel prog w B env ks cs ρ { st with heap := st.heap.set k co' } h' := by
  have nd := R.nd
  unfold own at nd
  rw [List.nodup_append] at nd
  have hin : ∀ a ∈ as, a ∈ (ρ.drop st.lo).flatten := fun a ha => mem_own_obj hk hlo ha
  have hL : env.locals ∉ as := fun q => nd.2.2 _ (.head _) _ (hin _ q) rfl
  have hcs : ∀ c ∈ cs, c ∉ as := fun c hc q => nd.2.2 _ (.tail _ hc) _ (hin _ q) rfl
  have hB : ∀ b o, B b o → b ∉ as := fun b o e q => R.off b (List.mem_append.mpr (.inr (hin b q))) o e
  have hlt := (List.getElem?_eq_some_iff.mp hc).1
  refine ⟨fun b o e => kp b o (hB b o e) (R.base b o e), by simp [R.len], by simp [R.lo], ?_, R.nd, R.off, ?_, ?_, R.fre, ?_, R.glob, R.big⟩
  · intro i ci ai e1 e2
    dsimp only at e1 ⊢
    by_cases hik : i = k
    · subst hik
      rw [List.getElem?_set_self hlt] at e1
      cases e1
      rw [hk] at e2; cases e2
      refine ⟨os', ?_, hs⟩
      rw [if_neg (Nat.not_lt.mpr hlo)]; exact hh
    · rw [List.getElem?_set_ne (Ne.symm hik)] at e1
      obtain ⟨os, a1, a2⟩ := R.obj i ci ai e1 e2
      refine ⟨os, ?_, a2⟩
      split
      · rename_i q; rw [if_pos q] at a1; exact a1
      · rename_i q
        rw [if_neg q] at a1
        refine a1.mono fun a ha o e => kp a o ?_ e
        have q' : st.lo ≤ i := Nat.le_of_not_lt q
        refine flat_apart (l := ρ.drop st.lo) (i := i - st.lo) (j := k - st.lo) nd.2.1 ?_ ?_ (fun e => hik ((Nat.sub_add_cancel q').symm.trans (e ▸ Nat.sub_add_cancel hlo))) a ha
        · rw [List.getElem?_drop, show st.lo + (i - st.lo) = i from Nat.add_sub_of_le q']; exact e2
        · rw [List.getElem?_drop, show st.lo + (k - st.lo) = k from Nat.add_sub_of_le hlo]; exact hk
  · obtain ⟨m, ⟨o, es, ep, ho, r'⟩, r⟩ := R.ns
    exact ⟨m, ⟨o, es, ep, kp _ _ hL ho, r'⟩, r⟩
  · intro i x e
    obtain ⟨c, u, a1, a2, ⟨o, ho, hd⟩, a4⟩ := R.cel i x e
    exact ⟨c, u, a1, a2, ⟨o, kp _ _ (hcs c a2) ho, hd⟩, a4⟩
  · intro c hc
    obtain ⟨u, o, ho, hd⟩ := R.cin c hc
    exact ⟨u, o, kp _ _ (hcs c hc) ho, hd⟩

theorem Rel.bind (R : Rel prog w B env ks cs ρ st h) (O : EnvOk env ks) {i : Nat} {x : Str} {cv : CV} {v : Value} (hi : ks[i]? = some (x, SK.loc)) (hv : VRel ρ cv v) (hS : Heap.SameBut env.locals h h')
    (hN : ∀ m, h.Ns env.locals m → h'.Ns env.locals (fun y => if y = x then some v else m y)) : Rel prog w B env ks cs ρ { st with loc := st.loc.set i (some cv) } h' := by
  have nd := R.nd
  unfold own at nd
  rw [List.cons_append, List.nodup_cons] at nd
  have kp : ∀ b o, b ≠ env.locals → h.get? b = some o → h'.get? b = some o := fun b o n e => (hS.2 b n).trans e
  have hne : ∀ a ∈ cs ++ (ρ.drop st.lo).flatten, a ≠ env.locals := fun a ha e => nd.1 (e ▸ ha)
  refine ⟨fun b o e => kp b o (fun q => R.off b (by rw [q]; exact .head _) o e) (R.base b o e), R.len, R.lo, ?_, R.nd, R.off, ?_, ?_, ?_, ?_, R.glob, R.big⟩
  · intro j co as e1 e2
    obtain ⟨os, a1, a2⟩ := R.obj j co as e1 e2
    refine ⟨os, ?_, a2⟩
    dsimp only
    split
    · rename_i q; rw [if_pos q] at a1; exact a1
    · rename_i q
      rw [if_neg q] at a1
      exact a1.mono fun a ha o e => kp a o (hne a (List.mem_append.mpr (.inr (mem_own_obj e2 (Nat.le_of_not_lt q) ha)))) e
  · obtain ⟨m, n, r⟩ := R.ns
    refine ⟨_, hN m n, fun j y c e1 e2 => ?_⟩
    dsimp only at e2
    by_cases hj : j = i
    · subst hj
      rw [hi] at e1; cases e1
      have := (List.getElem?_eq_some_iff.mp e2).1
      rw [List.getElem?_set_self (by simpa using this)] at e2
      cases e2
      exact ⟨v, by simp, hv⟩
    · rw [List.getElem?_set_ne (Ne.symm hj)] at e2
      obtain ⟨v', e3, e4⟩ := r j y c e1 e2
      have : y ≠ x := fun q => hj (O.uniq j i x _ _ (q ▸ e1) hi (by decide) (by decide))
      exact ⟨v', by simp [this, e3], e4⟩
  · intro j y e
    obtain ⟨c, u, a1, a2, a3, a4⟩ := R.cel j y e
    have hj : j ≠ i := fun q => by subst q; rw [hi] at e; cases e
    refine ⟨c, u, a1, a2, ?_, fun cv' e2 => a4 cv' ?_⟩
    · obtain ⟨o, ho, hd⟩ := a3
      exact ⟨o, kp _ _ (hne c (List.mem_append.mpr (.inl a2))) ho, hd⟩
    · dsimp only at e2; rw [List.getElem?_set_ne (Ne.symm hj)] at e2; exact e2
  · intro j y e
    obtain ⟨c, o, u, a1, a2, a3, a4⟩ := R.fre j y e
    have hj : j ≠ i := fun q => by subst q; rw [hi] at e; cases e
    refine ⟨c, o, u, a1, a2, a3, fun cv' e2 => a4 cv' ?_⟩
    dsimp only at e2; rw [List.getElem?_set_ne (Ne.symm hj)] at e2; exact e2
  · intro c hc
    obtain ⟨u, o, ho, hd⟩ := R.cin c hc
    exact ⟨u, o, kp _ _ (hne c (List.mem_append.mpr (.inl hc))) ho, hd⟩

theorem Rel.fill (R : Rel prog w B env ks cs ρ st h) (O : EnvOk env ks) {i : Nat} {x : Str} {c : Addr} {cv : CV} {v : Value} (hi : ks[i]? = some (x, SK.cell)) (hcl : env.cells.lookup x = some c) (hc : c ∈ cs) (hv : VRel ρ cv v)
    (hS : Heap.SameBut c h h') (hN : h'.IsCell c (some v)) : Rel prog w B env ks cs ρ { st with loc := st.loc.set i (some cv) } h' := by
  have nd := R.nd
  unfold own at nd
  have kp : ∀ b o, b ≠ c → h.get? b = some o → h'.get? b = some o := fun b o n e => (hS.2 b n).trans e
  have hcin : c ∈ own env cs ρ st.lo := List.mem_append.mpr (.inl (.tail _ hc))
  have hLc : env.locals ≠ c := by
    rw [List.cons_append, List.nodup_cons] at nd
    exact fun e => nd.1 (e ▸ List.mem_append.mpr (.inl hc))
  have hoc : ∀ a ∈ (ρ.drop st.lo).flatten, a ≠ c := by
    rw [List.nodup_append] at nd
    exact fun a ha e => nd.2.2 c (.tail _ hc) a ha e.symm
  refine ⟨fun b o e => kp b o (fun q => R.off b (q ▸ hcin) o e) (R.base b o e), R.len, R.lo, ?_, R.nd, R.off, ?_, ?_, ?_, ?_, R.glob, R.big⟩
  · intro j co as e1 e2
    obtain ⟨os, a1, a2⟩ := R.obj j co as e1 e2
    refine ⟨os, ?_, a2⟩
    dsimp only
    split
    · rename_i q; rw [if_pos q] at a1; exact a1
    · rename_i q
      rw [if_neg q] at a1
      exact a1.mono fun a ha o e => kp a o (hoc a (mem_own_obj e2 (Nat.le_of_not_lt q) ha)) e
  · obtain ⟨m, ⟨o, es, ep, ho, r'⟩, r⟩ := R.ns
    refine ⟨m, ⟨o, es, ep, kp _ _ hLc ho, r'⟩, fun j y cv' e1 e2 => ?_⟩
    have hj : j ≠ i := fun q => by subst q; rw [hi] at e1; cases e1
    dsimp only at e2; rw [List.getElem?_set_ne (Ne.symm hj)] at e2
    exact r j y cv' e1 e2
  · intro j y e
    obtain ⟨c', u, a1, a2, a3, a4⟩ := R.cel j y e
    by_cases hj : j = i
    · subst hj
      rw [hi] at e; cases e
      rw [hcl] at a1; cases a1
      refine ⟨c, some v, hcl, hc, hN, fun cv' e2 => ?_⟩
      dsimp only at e2
      have := (List.getElem?_eq_some_iff.mp e2).1
      rw [List.getElem?_set_self (by simpa using this)] at e2
      cases e2
      exact ⟨v, rfl, hv⟩
    · have hyx : y ≠ x := fun q => hj (O.uniq j i x _ _ (q ▸ e) hi (by decide) (by decide))
      have hcc : c' ≠ c := fun q => by
        subst q
        exact hyx (name_of_addr O.apart (mem_of_lookup a1) (mem_of_lookup hcl))
      refine ⟨c', u, a1, a2, ?_, fun cv' e2 => a4 cv' ?_⟩
      · obtain ⟨o, ho, hd⟩ := a3; exact ⟨o, kp _ _ hcc ho, hd⟩
      · dsimp only at e2; rw [List.getElem?_set_ne (Ne.symm hj)] at e2; exact e2
  · intro j y e
    obtain ⟨c', o, u, a1, a2, a3, a4⟩ := R.fre j y e
    have hj : j ≠ i := fun q => by subst q; rw [hi] at e; cases e
    refine ⟨c', o, u, a1, a2, a3, fun cv' e2 => a4 cv' ?_⟩
    dsimp only at e2; rw [List.getElem?_set_ne (Ne.symm hj)] at e2; exact e2
  · intro c' hc'
    by_cases q : c' = c
    · subst q; exact ⟨_, hN⟩
    · obtain ⟨u, o, ho, hd⟩ := R.cin c' hc'
      exact ⟨u, o, kp _ _ q ho, hd⟩
end
end Mine
end

section
set_option genSizeOf false
set_option genInjectivity false
namespace Mine

structure Sit where
  B : Bs
  env : Env
  ks : Kinds
  cs : List Addr
  A : Around
  lo : Nat
  dep : Nat
  fr : List (Addr × Data)

structure Ctx (A : Around) (dep : Nat) : Prop where
  handled : dep ≠ 0 → A.handled = none
  depth : A.depth + dep < recursionLimit
  units : A.units + 10 * dep + 100 < cLine
theorem Ctx.one {A : Around} {dep : Nat} (c : Ctx A dep) : A.units < cLine := Nat.lt_of_le_of_lt (Nat.le_trans (Nat.le_add_right _ _) (Nat.le_add_right _ _)) c.units
theorem Ctx.room {A : Around} {dep : Nat} (c : Ctx A dep) : A.depth < recursionLimit := Nat.lt_of_le_of_lt (Nat.le_add_right _ _) c.depth
theorem dep_sub {a w d n : Nat} (h : a + d < n) (hd : d ≠ 0) (hw : w ≤ 1) : a + w + (d - 1) < n := by omega
theorem units_sub {u c d n : Nat} (h : u + 10 * d + 100 < n) (hd : d ≠ 0) (hc : c ≤ 10) : u + c + 10 * (d - 1) + 100 < n := by omega

structure Same (s s' : Shared) : Prop where
  gens : s'.gens = s.gens
  drawn : s'.drawn = s.drawn
  os : s'.os = s.os
theorem Same.rfl {s : Shared} {h : Heap} {t : Nat} : Same s { s with heap := h, toks := t } := ⟨by rfl, by rfl, by rfl⟩
theorem Same.refl {s : Shared} : Same s s := ⟨by rfl, by rfl, by rfl⟩
theorem Same.trans {s s' s'' : Shared} (a : Same s s') (b : Same s' s'') : Same s s'' := ⟨b.gens.trans a.gens, b.drawn.trans a.drawn, b.os.trans a.os⟩

structure Wd where
  prog : Program
  w : World
  K : Frag
  top : List Addr

noncomputable def Trk (S : Sit) : Prop := 20 < S.dep → ∃ outer, S.A.frames = some (S.env :: outer) ∧ S.env.frame = some S.env.locals ∧
  ∀ e ∈ outer, e.scope.kind ≠ .module ∧ ∃ p ∈ S.fr, e.frame = some p.1 ∧ ∃ es ep, p.2 = .dict es ep
noncomputable def FrOk (S : Sit) (ρ : Rho) (lo : Nat) (h : Heap) (p : Addr × Data) : Prop := (∃ o, h.get? p.1 = some o ∧ o.data = p.2) ∧ p.1 ∉ own S.env S.cs ρ lo ∧ ∀ o, ¬ S.B p.1 o
theorem FrOk.to {S : Sit} {ρ ρ' : Rho} {lo : Nat} {h h' : Heap} {p : Addr × Data} (f : FrOk S ρ lo h p) (k : ∀ o, h.get? p.1 = some o → h'.get? p.1 = some o) (n : p.1 ∉ own S.env S.cs ρ' lo) : FrOk S ρ' lo h' p :=
  let ⟨⟨o, e, d⟩, _, b⟩ := f; ⟨⟨o, k o e, d⟩, n, b⟩
inductive BltAt (B : Bs) : Prop
  | intro (o es ep) (h1 : B builtinsNs o) (h2 : o.data = .dict es ep) (h3 : StrKeys es) (h4 : ∀ x : Str, x ≠ "__name__" → nsFind es x = bootBuiltins x)
structure Ok (W : Wd) (S : Sit) (ρ : Rho) (st : St) (h : Heap) : Prop where
  base : ∀ a o, W.K.lookup a = some o → S.B a o
  blt : BltAt S.B
  env : EnvOk S.env S.ks
  top : ∀ (i : Nat) (a : Addr), W.top[i]? = some a → ρ[i]? = some [a]
  ctx : Ctx S.A S.dep
  lo : st.lo = S.lo
  dep : st.dep = S.dep
  rel : Rel W.prog W.w S.B S.env S.ks S.cs ρ st h
  frs : ∀ p ∈ S.fr, FrOk S ρ st.lo h p
  trk : Trk S

noncomputable def Then {α : Type} (W : Wd) (S : Sit) (ρ : Rho) (s : Shared) (st' : St) (P : Rho → α → Prop) (Q : α → Shared → Prop) : Prop :=
  ∀ a ρ' s', Ext ρ ρ' → Ok W S ρ' st' s'.heap → P ρ' a → Same s s' → Q a s'
noncomputable def Does {α : Type} (W : Wd) (S : Sit) (ρ : Rho) (s : Shared) (t : Sem α) (st' : St) (P : Rho → α → Prop) : Prop :=
  ∀ (Q : α → Shared → Prop) (E : Value → Shared → Prop), Then W S ρ s st' P Q → wpAny (model W.prog W.w) S.A t Q E s

section
variable {W : Wd} {S : Sit} {ρ : Rho} {st st' : St} {s : Shared}
theorem Ok.keeps {h h' : Heap} (O : Ok W S ρ st h) (k : ∀ b o, h.get? b = some o → h'.get? b = some o) : Ok W S ρ st h' := ⟨O.base, O.blt, O.env, O.top, O.ctx, O.lo, O.dep, O.rel.keeps k, fun p hp => (O.frs p hp).to (fun o => k _ o) (O.frs p hp).2.1, O.trk⟩
theorem Ok.frFresh {h : Heap} (O : Ok W S ρ st h) {a : Addr} (q : h.objs.size ≤ a) : a ∉ S.fr.map (·.1) := fun m => by
  obtain ⟨p, hp, rfl⟩ := List.mem_map.mp m
  obtain ⟨⟨o, e, _⟩, _⟩ := O.frs p hp
  exact absurd (Heap.lt_size e) (Nat.not_lt.mpr q)
theorem Ok.frOwn {h : Heap} (O : Ok W S ρ st h) {a : Addr} (q : a ∈ own S.env S.cs ρ st.lo) : a ∉ S.fr.map (·.1) := fun m => by
  obtain ⟨p, hp, rfl⟩ := List.mem_map.mp m
  exact (O.frs p hp).2.1 q
theorem Ok.frB {h : Heap} (O : Ok W S ρ st h) {a : Addr} {o : Obj} (q : S.B a o) : a ∉ S.fr.map (·.1) := fun m => by
  obtain ⟨p, hp, rfl⟩ := List.mem_map.mp m
  exact (O.frs p hp).2.2 o q
theorem Ok.inK {h : Heap} (O : Ok W S ρ st h) : W.K.In h := fun a o e => O.rel.base _ _ (O.base a o e)
theorem Ok.alloc {h h' : Heap} (O : Ok W S ρ st h) (k : ∀ b o, h.get? b = some o → h'.get? b = some o) {as : List Addr} {os : List Obj} {co : CO}
    (hf : ∀ a ∈ as, h.get? a = none ∧ h.objs.size ≤ a) (hn : as.Nodup) (hh : Has (At h') as os) (hs : Shape W.prog W.w (ρ ++ [as]) as os co) :
    Ok W S (ρ ++ [as]) { st with heap := st.heap ++ [co] } h' :=
  ⟨O.base, O.blt, O.env, fun i a e => Ext.get ⟨[as], by rfl⟩ (O.top i a e), O.ctx, O.lo, O.dep, O.rel.alloc k hf hn hh hs, fun p hp => (O.frs p hp).to (fun o => k _ o) fun q => (by
    have q : p.1 ∈ own S.env S.cs (ρ ++ [as]) st.lo := q
    rw [own_more (by rw [O.rel.len]; exact O.rel.lo)] at q
    rcases List.mem_append.mp q with q | q
    · exact (O.frs p hp).2.1 q
    · obtain ⟨⟨o, e, _⟩, _⟩ := O.frs p hp
      rw [(hf _ q).1] at e; cases e), O.trk⟩
theorem Heap.get_size (h : Heap) : h.get? h.objs.size = none := by
  cases q : h.get? h.objs.size with
  | none => rfl
  | some o => exact absurd (Heap.lt_size q) (Nat.lt_irrefl _)
theorem Ok.push {h : Heap} (O : Ok W S ρ st h) {o : Obj} {co : CO} (hf : o.isFreed = false) (hs : ∀ ρ', Ext ρ ρ' → Shape W.prog W.w ρ' [h.objs.size] [o] co) :
    Ok W S (ρ ++ [[h.objs.size]]) { st with heap := st.heap ++ [co] } (h.push o) :=
  O.alloc (os := [o]) (fun _ _ e => Heap.get?_push_of_some _ e) (fun a ha => by rw [List.mem_singleton.mp ha]; exact ⟨Heap.get_size h, Nat.le_refl _⟩) (by simp) ⟨Heap.get?_push_size _ hf, trivial⟩ (hs _ ⟨_, by rfl⟩)
theorem Ok.newRef {h : Heap} (O : Ok W S ρ st h) (a : Addr) : VRel (ρ ++ [[a]]) (.ref st.heap.length) (.ref a) := by
  refine ⟨a, [], ?_, by rfl⟩
  rw [← O.rel.len, List.getElem?_append_right (Nat.le_refl _)]; simp
theorem Does.quiet {α : Type} {t : Sem α} {P : Rho → α → Prop} (O : Ok W S ρ st s.heap)
    (h : ∀ (Q : α → Shared → Prop) (E : Value → Shared → Prop), (∀ a h' tk, (∀ b o, s.heap.get? b = some o → h'.get? b = some o) → P ρ a → Q a { s with heap := h', toks := tk }) → wpAny (model W.prog W.w) S.A t Q E s) :
    Does W S ρ s t st P :=
  fun Q E hQ => h Q E fun a h' tk k p => hQ a ρ { s with heap := h', toks := tk } (Ext.refl _) (O.keeps k) p Same.rfl
theorem small_lt {i : Int} (h : small i = true) : -(2 ^ 62) < i ∧ i < 2 ^ 62 := by simpa [small] using h
theorem small_abs {i : Int} (h : small i = true) : i.natAbs < 2 ^ 64 := by have := small_lt h; omega
theorem mulOk_small {a b : Int} (ha : small a = true) : IntMulOk a b := by
  unfold IntMulOk
  have h1 : Builtin.Int.intBits a ≤ 64 := by have := small_lt ha; exact intBits_le_64 (by omega) (by omega)
  have : decide (Builtin.Int.intBits a > shortFactorBits) = false := decide_eq_false (by unfold shortFactorBits; omega)
  rw [this]; simp
theorem lenOk_le {α : Type} {xs : List α} (h : lenOk xs = true) : xs.length ≤ 1000000 := by simpa [lenOk] using h
theorem sizeLine_is : sizeLine = 16777216 := by decide
end
end Mine
end

section
set_option genSizeOf false
set_option genInjectivity false
set_option maxHeartbeats 4000000
namespace Mine
section
variable {W : Wd} {S : Sit} {ρ : Rho} {st st' : St} {s : Shared}

inductive bnd_someR (α : Type) (β : Type) (c : M α) (k : α → M β) (st : St) (r : β × St) : Prop
  | intro a st1 (f1 : c st = some (a, st1)) (f2 : k a st1 = some r)
theorem bnd_some {α β : Type} {c : M α} {k : α → M β} {st : St} {r : β × St} (h : bnd c k st = some r) : bnd_someR α β c k st r := by
  unfold bnd at h
  cases q : c st with
  | none => rw [q] at h; (first | exact nope h | refine rt_elim h ?_ | cases h)
  | some p => rw [q] at h; exact ⟨p.1, p.2, q, h⟩
inductive look_someR (v : CV) (p : Nat × CO) (st : St) (st1 : St) : Prop
  | intro (f1 : v = .ref p.1) (f2 : st.heap[p.1]? = some p.2) (f3 : st1 = st)
theorem look_some {v : CV} {p : Nat × CO} {st st1 : St} (h : look v st = some (p, st1)) : look_someR v p st st1 := by
  induction v with
  | ref k =>
    unfold look at h
    dsimp only at h
    cases q : st.heap[k]? with
    | none => rw [q] at h; exact nope h
    | some o => rw [q] at h; cases h; exact ⟨rfl, q, rfl⟩
  | _ => exact nope h
inductive bnd_lookR {α : Type} (v : CV) (k : Nat × CO → M α) (st : St) (r : α × St) : Prop
  | intro (i : Nat) (co : CO) (f1 : v = .ref i) (f2 : st.heap[i]? = some co) (f3 : k (i, co) st = some r)
theorem bnd_look {α : Type} {v : CV} {k : Nat × CO → M α} {st : St} {r : α × St} (h : bnd (look v) k st = some r) : bnd_lookR v k st r := by
  obtain ⟨⟨i, co⟩, st1, h1, h2⟩ := bnd_some h
  (replace h1 := look_some h1; obtain ⟨e1, e2, rfl⟩ := h1)
  exact ⟨i, co, e1, e2, h2⟩
theorem alloc_some {o : CO} {v : CV} {st st1 : St} (h : alloc o st = some (v, st1)) : v = .ref st.heap.length ∧ st1 = { st with heap := st.heap ++ [o] } := by cases h; exact ⟨rfl, rfl⟩
theorem put_some {k : Nat} {o : CO} {u : Unit} {st st1 : St} (h : put k o st = some (u, st1)) : st.lo ≤ k ∧ st1 = { st with heap := st.heap.set k o } := by
  unfold put at h
  (first | (replace h := if_inv h; obtain ⟨q, h⟩ := h) | (replace h := if_inv2 h; obtain ⟨q, h⟩ := h) | (split at h; rotate_left; (focus cases h); rename_i q))
  · (first | exact nope h | refine rt_elim h ?_ | cases h); exact ⟨q, rfl⟩

inductive Ok_listR (h : Heap) (k : Nat) (xs : List CV) (u : Value) : Prop
  | intro a vs n (f1 : u = .ref a) (f2 : ρ[k]? = some [a]) (f3 : h.get? a = some { cls := .type "list", data := .seq vs n }) (f4 : VRels ρ xs vs.toList)
theorem put_rt {k : Nat} {o : CO} {c v : CV} {st st' : St} (h : bnd (put k o) (fun _ => rt c) st = some (v, st')) : st.lo ≤ k ∧ c = v ∧ { st with heap := st.heap.set k o } = st' := by
  obtain ⟨y, st2, h2, h3⟩ := bnd_some h
  (replace h2 := put_some h2; obtain ⟨hlo, rfl⟩ := h2)
  (first | exact nope h3 | refine rt_elim h3 ?_ | cases h3); exact ⟨hlo, rfl, rfl⟩
theorem Ok.list {h : Heap} (O : Ok W S ρ st h) {k : Nat} {xs : List CV} {u : Value} (e : st.heap[k]? = some (.list xs)) (hu : VRel ρ (.ref k) u) :
Ok_listR (ρ := ρ) h k xs u := by
  obtain ⟨as, os, h1, h2, a, vs, n, rfl, rfl, h3⟩ := O.rel.at e
  obtain ⟨b, bs, h4, rfl⟩ := hu
  rw [h1] at h4; (first | exact nope h4 | refine rt_elim h4 ?_ | cases h4)
  exact ⟨_, vs, n, rfl, h1, h2.1, h3⟩
inductive Ok_tupleR (h : Heap) (k : Nat) (xs : List CV) (u : Value) : Prop
  | intro a vs n (f1 : u = .ref a) (f2 : ρ[k]? = some [a]) (f3 : h.get? a = some { cls := .type "tuple", data := .seq vs n }) (f4 : VRels ρ xs vs.toList)
theorem Ok.tuple {h : Heap} (O : Ok W S ρ st h) {k : Nat} {xs : List CV} {u : Value} (e : st.heap[k]? = some (.tuple xs)) (hu : VRel ρ (.ref k) u) :
Ok_tupleR (ρ := ρ) h k xs u := by
  obtain ⟨as, os, h1, h2, a, vs, n, rfl, rfl, h3⟩ := O.rel.at e
  obtain ⟨b, bs, h4, rfl⟩ := hu
  rw [h1] at h4; (first | exact nope h4 | refine rt_elim h4 ?_ | cases h4)
  exact ⟨_, vs, n, rfl, h1, h2.1, h3⟩
inductive Ok_dictSR (h : Heap) (k : Nat) (es : List (Str × CV)) (ep : Nat) (u : Value) : Prop
  | intro a kvs rep (f1 : u = .ref a) (f2 : ρ[k]? = some [a]) (f3 : h.DictAt (strKind W.prog W.w) a kvs rep) (f4 : KVRel ρ es kvs) (f5 : 3 < a) (f6 : EpIs ep rep)
theorem Ok.dictS {h : Heap} (O : Ok W S ρ st h) {k : Nat} {es : List (Str × CV)} {ep : Nat} {u : Value} (e : st.heap[k]? = some (.dictS es ep)) (hu : VRel ρ (.ref k) u) :
Ok_dictSR (W := W) (ρ := ρ) h k es ep u := by
  obtain ⟨as, os, h1, h2, a, o, res, kvs, rep, h0, rfl, rfl, h3, h4, h5, h6, h7, h8⟩ := O.rel.at e
  obtain ⟨b, bs, h9, rfl⟩ := hu
  rw [h1] at h9; (first | exact nope h9 | refine rt_elim h9 ?_ | cases h9)
  exact ⟨_, kvs, rep, rfl, h1, ⟨o, res, h2.1, h3, h4, h5, h6, h7⟩, h8, O.rel.big k _ h1 _ (.head _), h0⟩
inductive Ok_dictIR (h : Heap) (k : Nat) (es : List (Int × CV)) (ep : Nat) (u : Value) : Prop
  | intro a kvs rep (f1 : u = .ref a) (f2 : ρ[k]? = some [a]) (f3 : h.DictAt (intKind W.prog W.w) a kvs rep) (f4 : KVRel ρ es kvs) (f5 : 3 < a) (f6 : EpIs ep rep)
theorem Ok.dictI {h : Heap} (O : Ok W S ρ st h) {k : Nat} {es : List (Int × CV)} {ep : Nat} {u : Value} (e : st.heap[k]? = some (.dictI es ep)) (hu : VRel ρ (.ref k) u) :
Ok_dictIR (W := W) (ρ := ρ) h k es ep u := by
  obtain ⟨as, os, h1, h2, a, o, res, kvs, rep, h0, rfl, rfl, h3, h4, h5, h6, h7, h8⟩ := O.rel.at e
  obtain ⟨b, bs, h9, rfl⟩ := hu
  rw [h1] at h9; (first | exact nope h9 | refine rt_elim h9 ?_ | cases h9)
  exact ⟨_, kvs, rep, rfl, h1, ⟨o, res, h2.1, h3, h4, h5, h6, h7⟩, h8, O.rel.big k _ h1 _ (.head _), h0⟩
inductive Ok_setR (h : Heap) (k : Nat) (xs : List Str) (u : Value) : Prop
  | intro a n (f1 : u = .ref a) (f2 : ρ[k]? = some [a]) (f3 : h.SetOf (strKind W.prog W.w) a (fun x => decide (x ∈ xs)) n) (f4 : n ≤ xs.length)
theorem Ok.set {h : Heap} (O : Ok W S ρ st h) {k : Nat} {xs : List Str} {u : Value} (e : st.heap[k]? = some (.set xs)) (hu : VRel ρ (.ref k) u) :
Ok_setR (W := W) (ρ := ρ) h k xs u := by
  obtain ⟨as, os, h1, h2, a, o, es, ep, t, rfl, rfl, h3, h4, h5, h6, h7, h8, h9⟩ := O.rel.at e
  obtain ⟨b, bs, hb, rfl⟩ := hu
  rw [h1] at hb; (first | exact nope hb | refine rt_elim hb ?_ | cases hb)
  exact ⟨_, es.size, rfl, h1, ⟨o, es, ep, t, h2.1, h3, h4, h5, h6, h7, h8, rfl⟩, h9⟩
theorem sysM {a : Addr} (h : 3 < a) : (a == sysModules) = false := by
  have : sysModules = 1 := rfl
  rw [this]
  exact beq_eq_false_iff_ne.mpr fun e => by rw [e] at h; exact absurd h (by decide)

theorem VRels.length : ∀ {ρ : Rho} {xs : List CV} {vs : List Value}, VRels ρ xs vs → xs.length = vs.length
  | _, [], [], _ => rfl
  | _, _ :: _, _ :: _, ⟨_, r⟩ => by simp [r.length]
  | _, [], _ :: _, h => h.elim
  | _, _ :: _, [], h => h.elim
theorem VRels.get : ∀ {ρ : Rho} {xs : List CV} {vs : List Value}, VRels ρ xs vs → ∀ {i : Nat} {x : CV}, xs[i]? = some x → ∃ v, vs[i]? = some v ∧ VRel ρ x v
  | _, _ :: _, _ :: _, ⟨h, _⟩, 0, _, e => by cases e; exact ⟨_, rfl, h⟩
  | _, _ :: _, _ :: _, ⟨_, r⟩, i + 1, _, e => r.get (by simpa using e)
  | _, [], _, _, _, _, e => by simp at e
  | _, _ :: _, [], h, _, _, _ => h.elim
theorem VRels.append : ∀ {ρ : Rho} {xs ys : List CV} {vs ws : List Value}, VRels ρ xs vs → VRels ρ ys ws → VRels ρ (xs ++ ys) (vs ++ ws)
  | _, [], _, [], _, _, h => h
  | _, _ :: _, _, _ :: _, _, ⟨h, r⟩, q => ⟨h, r.append q⟩
  | _, [], _, _ :: _, _, h, _ => h.elim
  | _, _ :: _, _, [], _, h, _ => h.elim
theorem VRels.strs : ∀ {ρ : Rho} {xs : List CV} {vs : List Value} {ys : List Str}, VRels ρ xs vs → strsOf xs = some ys → StrsAre vs ys
  | _, [], [], _, _, e => by cases e; exact .nil
  | _, .str x :: r, v :: vs, ys, ⟨⟨t, h⟩, q⟩, e => by
    unfold strsOf at e
    cases q2 : strsOf r with
    | none => rw [q2] at e; (first | exact nope e | refine rt_elim e ?_ | cases e)
    | some z => rw [q2] at e; (first | exact nope e | refine rt_elim e ?_ | cases e); subst h; exact .cons _ _ (VRels.strs q q2)
  | _, .none :: _, _ :: _, _, _, e => by cases e
  | _, .bool _ :: _, _ :: _, _, _, e => by cases e
  | _, .int _ :: _, _ :: _, _, _, e => by cases e
  | _, .ref _ :: _, _ :: _, _, _, e => by cases e
  | _, .lit _ :: _, _ :: _, _, _, e => by cases e
  | _, [], _ :: _, _, h, _ => h.elim
  | _, _ :: _, [], _, h, _ => h.elim
theorem VRels.ints : ∀ {ρ : Rho} {xs : List CV} {vs : List Value} {ys : List Int}, VRels ρ xs vs → intsOf xs = some ys → IntsAre vs ys
  | _, [], [], _, _, e => by cases e; exact .nil
  | _, .int x :: r, v :: vs, ys, ⟨⟨t, h⟩, q⟩, e => by
    unfold intsOf at e
    cases q2 : intsOf r with
    | none => rw [q2] at e; (first | exact nope e | refine rt_elim e ?_ | cases e)
    | some z => rw [q2] at e; (first | exact nope e | refine rt_elim e ?_ | cases e); subst h; exact .cons _ _ (VRels.ints q q2)
  | _, .none :: _, _ :: _, _, _, e => by cases e
  | _, .bool _ :: _, _ :: _, _, _, e => by cases e
  | _, .str _ :: _, _ :: _, _, _, e => by cases e
  | _, .ref _ :: _, _ :: _, _, _, e => by cases e
  | _, .lit _ :: _, _ :: _, _, _, e => by cases e
  | _, [], _ :: _, _, h, _ => h.elim
  | _, _ :: _, [], _, h, _ => h.elim

theorem Does.tok {t : Sem Value} {v : CV} (O : Ok W S ρ st s.heap)
    (h : ∀ (Q : Value → Shared → Prop) (E : Value → Shared → Prop), (∀ u tk, VRel ρ v u → Q u { s with toks := tk }) → wpAny (model W.prog W.w) S.A t Q E s) : Does W S ρ s t st (fun ρ' u => VRel ρ' v u) :=
  Does.quiet O fun Q E hQ => h Q E fun u tk hu => hQ u s.heap tk (fun _ _ e => e) hu

theorem list_add_sound {a b : Addr} {vs ws : Array Value} {n m : Nat} {Q E : Value → Shared → Prop} {A : Around} {prog : Program} {w : World} (ha : s.heap.get? a = some { cls := .type "list", data := .seq vs n }) (hb : s.heap.get? b = some { cls := .type "list", data := .seq ws m })
    (hsz : vs.size + ws.size ≤ sizeLine) (h : Q (.ref s.heap.objs.size) { s with heap := s.heap.push { cls := .type "list", data := .seq (vs ++ ws) } }) : wpAny (model prog w) A (binaryOp .Add (.ref a) (.ref b)) Q E s :=
  concat_meets ⟨_, ha, rfl⟩ ⟨_, hb, rfl⟩ noFill_list_add seq_list_add PySem.F.slot_list_add PySem.F.entry_list_add (PySem.F.args_list_add_2 _ _) (list_addW a b vs ws n m none none #[] #[] hsz) ⟨ha, hb, h⟩

theorem ints_of (O : Ok W S ρ st s.heap) {op : Operator} {x y z z' : Int} {t t' : Nat} (h : some z = some z') (k : ∀ {Q : Value → Shared → Prop} {E : Value → Shared → Prop}, (∀ tk, Q (.int z s.toks) { s with toks := tk }) → wpAny (model W.prog W.w) S.A (binaryOp op (.int x t) (.int y t')) Q E s) : Does W S ρ s (binaryOp op (.int x t) (.int y t')) st (fun ρ' r => VRel ρ' (.int z') r) := by
  cases h
  exact Does.tok O fun Q E hQ => k fun tk => hQ _ tk ⟨_, rfl⟩
theorem and2 {a b : Bool} (h : (a && b) = true) : a = true ∧ b = true := by rwa [Bool.and_eq_true] at h
theorem bin_ints (O : Ok W S ρ st s.heap) {op : Operator} {x y z : Int} {t t' : Nat} (hz : binI op x y = some z) : Does W S ρ s (binaryOp op (.int x t) (.int y t')) st (fun ρ' r => VRel ρ' (.int z) r) := by
  cases op with
  | Add => exact ints_of O hz fun h => PyProof.Rows.add_int (h _)
  | Sub => exact ints_of O hz fun h => PyProof.Rows.sub_int (h _)
  | Mult =>
    obtain ⟨q, hz⟩ := if_inv2 (c := (small x && small y) = true) (b := some (x * y)) hz
    exact ints_of O hz fun h => PyProof.Rows.mul_int (h _) (mulOk_small (and2 q).1)
  | FloorDiv =>
    obtain ⟨q, hz⟩ := if_inv2 (c := (decide (0 < y) && decide (y < 1000000)) = true) (b := some (x.fdiv y)) hz
    have q1 := of_decide_eq_true (and2 q).1
    have q2 := of_decide_eq_true (and2 q).2
    exact ints_of O hz fun h => PyProof.Rows.floordiv_int (by omega) (h _) (.inl (PyProof.noPylong_small (by omega)))
  | Mod =>
    by_cases q : y = 0
    · exact nope ((if_pos q).symm.trans hz)
    · exact ints_of O ((if_neg q).symm.trans hz) fun h => PyProof.Rows.mod_int' q (h _)
  | Pow =>
    obtain ⟨q, hz⟩ := if_inv2 (c := (decide (0 ≤ y) && decide (y ≤ 60) && small x) = true) (b := some (x ^ y.toNat)) hz
    have q1 := and2 (and2 q).1
    exact ints_of O hz fun h => PyProof.Rows.pow_int_small (of_decide_eq_true q1.1) (Int.le_trans (of_decide_eq_true q1.2) (by decide)) (small_abs (and2 q).2) (h _)
  | LShift =>
    obtain ⟨q, hz⟩ := if_inv2 (c := (decide (0 ≤ y) && decide (y ≤ 60) && small x) = true) (b := some (x * 2 ^ y.toNat)) hz
    have q1 := and2 (and2 q).1
    exact ints_of O hz fun h => PyProof.Rows.lshift_int_small (of_decide_eq_true q1.1) (Int.le_trans (of_decide_eq_true q1.2) (by decide)) (small_abs (and2 q).2) (h _)
  | RShift =>
    obtain ⟨q, hz⟩ := if_inv2 (c := decide (0 ≤ y) = true) (b := some (x.fdiv (2 ^ y.toNat))) hz
    exact ints_of O hz fun h => PyProof.Rows.rshift_int (of_decide_eq_true q) (h _)
  | BitAnd => exact ints_of O hz fun h => PyProof.Rows.and_int (h _)
  | BitOr => exact ints_of O hz fun h => PyProof.Rows.or_int (h _)
  | BitXor => exact ints_of O hz fun h => PyProof.Rows.xor_int (h _)
  | _ => exact nope hz
theorem bin_strs (O : Ok W S ρ st s.heap) {op : Operator} {x y : Str} {v : CV} {t t' : Nat} (h : binV op (.str x) (.str y) st = some (v, st')) : Does W S ρ s (binaryOp op (.str x t) (.str y t')) st' (fun ρ' r => VRel ρ' v r) := by
  cases op with
  | Add =>
    obtain ⟨q, h⟩ := if_inv h
    refine rt_elim h ?_
    refine Does.tok O fun Q E hQ => PyProof.Rows.add_str (fun t' tk => hQ _ tk ⟨_, rfl⟩) ?_
    have h1 := lenOk_le (and2 q).1
    have h2 := lenOk_le (and2 q).2
    rw [sizeLine_is]
    simp only [Array.length_toList] at h1 h2
    exact Nat.le_trans (Nat.add_le_add h1 h2) (by decide)
  | _ => exact nope h
theorem bin_lists (O : Ok W S ρ st s.heap) {op : Operator} {i j : Nat} {v : CV} {u u' : Value} (h : binV op (.ref i) (.ref j) st = some (v, st')) (ha : VRel ρ (.ref i) u) (hb : VRel ρ (.ref j) u') : Does W S ρ s (binaryOp op u u') st' (fun ρ' r => VRel ρ' v r) := by
  cases op with
  | Add =>
    obtain ⟨k1, o1, e1, e2, h⟩ := bnd_look h
    obtain ⟨k2, o2, e3, e4, h⟩ := bnd_look h
    cases e1
    cases e3
    induction o1 with
    | list xs =>
      induction o2 with
      | list ys =>
        obtain ⟨q, h⟩ := if_inv h
        (replace h := alloc_some h; obtain ⟨rfl, rfl⟩ := h)
        obtain ⟨aa, vs, n, rfl, _, ha1, ha2⟩ := O.list e2 ha
        obtain ⟨bb, ws, m, rfl, _, hb1, hb2⟩ := O.list e4 hb
        intro Q E hQ
        have l1 := lenOk_le (and2 q).1
        have l2 := lenOk_le (and2 q).2
        rw [ha2.length, Array.length_toList] at l1
        rw [hb2.length, Array.length_toList] at l2
        refine list_add_sound ha1 hb1 (by rw [sizeLine_is]; exact Nat.le_trans (Nat.add_le_add l1 l2) (by decide)) (hQ _ _ _ ⟨_, rfl⟩ (O.push rfl fun ρ' hE => ⟨_, _, 0, rfl, rfl, ?_⟩) (O.newRef _) Same.rfl)
        rw [Array.toList_append]
        exact (ha2.append hb2).mono hE
      | _ => exact nope h
    | _ => exact nope h
  | _ => exact nope h
theorem bin_sound (O : Ok W S ρ st s.heap) {op : Operator} {a b v : CV} {u u' : Value} (h : binV op a b st = some (v, st')) (ha : VRel ρ a u) (hb : VRel ρ b u') :
    Does W S ρ s (binaryOp op u u') st' (fun ρ' r => VRel ρ' v r) := by
  induction a with
  | int x =>
    induction b with
    | int y =>
      obtain ⟨t, rfl⟩ := ha
      obtain ⟨t', rfl⟩ := hb
      unfold binV at h
      dsimp only at h
      cases hz : binI op x y with
      | none => rw [hz] at h; exact nope h
      | some z => rw [hz] at h; cases h; exact bin_ints O hz
    | _ => exact nope h
  | str x =>
    induction b with
    | str y =>
      obtain ⟨t, rfl⟩ := ha
      obtain ⟨t', rfl⟩ := hb
      exact bin_strs O h
    | _ => exact nope h
  | ref i =>
    induction b with
    | ref j => exact bin_lists O h ha hb
    | _ => exact nope h
  | _ => exact nope h
end
end Mine
end

section
set_option genSizeOf false
set_option genInjectivity false
set_option maxHeartbeats 4000000
namespace Mine

theorem readsAll_of_strs {h : Heap} : ∀ {vs : List Value} {ns : List Str}, StrsAre vs ns → ReadsAll h vs (ns.map PyData.str) []
  | _, _, .nil => .nil
  | _, _, .cons k t r => by
    have := ReadsAll.cons (Reads.str (h := h) k t) (readsAll_of_strs (h := h) r)
    simpa using this
theorem reads_of_strs {h : Heap} {a : Addr} {vs : List Value} {ns : List Str} (hl : h.IsList a vs.toArray) (hi : StrsAre vs ns) : Reads h (.ref a) (.list (ns.map PyData.str)) [a] := by
  obtain ⟨o, ho, hc, n, hd⟩ := hl
  exact Reads.list ho hc hd (by simpa using readsAll_of_strs hi)
theorem depthAll_strs : ∀ ns : List Str, PyData.depthAll (ns.map PyData.str) ≤ 1
  | [] => by simp [PyData.depthAll]
  | n :: r => by
    have := depthAll_strs r
    simp only [List.map_cons, PyData.depthAll, PyData.depth]
    omega
theorem shaped_strs {ns : List Str} (hs : ns.all PyData.strOk = true) : SeqAt.shaped (.list (ns.map PyData.str)) = true := by
  have h1 := depthAll_strs ns
  have h2 : PyData.depth (.list (ns.map PyData.str)) ≤ 64 := by simp only [PyData.depth]; omega
  show (PyData.canLay0 (.list (ns.map PyData.str)) && decide (PyData.depth (.list (ns.map PyData.str)) ≤ 64)) = true
  rw [Bool.and_eq_true]
  exact ⟨by simp only [PyData.canLay0]; rw [PyProof.Rows.canLayAll_strs']; exact hs, decide_eq_true h2⟩
theorem noMix_strs : ∀ ns ms : List Str, SeqAt.noMixAll (ns.map PyData.str) (ms.map PyData.str) = true
  | [], [] => by simp [SeqAt.noMixAll]
  | [], _ :: _ => by simp [SeqAt.noMixAll]
  | _ :: _, [] => by simp [SeqAt.noMixAll]
  | _ :: r, _ :: q => by simp [SeqAt.noMixAll, SeqAt.noMix, noMix_strs r q]
theorem same_strs : ∀ ns ms : List Str, PySem.Spec.sameAll (ns.map PyData.str) (ms.map PyData.str) = decide (ns = ms)
  | [], [] => by simp [PySem.Spec.sameAll]
  | [], _ :: _ => by simp [PySem.Spec.sameAll]
  | _ :: _, [] => by simp [PySem.Spec.sameAll]
  | n :: r, k :: q => by
    simp only [List.map_cons, PySem.Spec.sameAll, PySem.Spec.same, same_strs r q]
    by_cases h : n = k <;> simp [h]
section
variable {prog : Program} {w : World} {A : Around} {E : Value → Shared → Prop} {s : Shared}
theorem eq_strsK {a b : Addr} {vs us : List Value} {ns ms : List Str} {Q : Value → Shared → Prop} (hl : s.heap.IsList a vs.toArray) (hi : StrsAre vs ns) (hl' : s.heap.IsList b us.toArray) (hi' : StrsAre us ms) (hs : ns.all PyData.strOk = true) (hs' : ms.all PyData.strOk = true) (hu : A.units + 64 < cLine)
    (h : Q (.bool (decide (ns = ms))) s) : wpAny (model prog w) A (compareOp .Eq (.ref a) (.ref b)) Q E s :=
  eq_dataH_same (reads_of_strs hl hi) (reads_of_strs hl' hi') (shaped_strs hs) (shaped_strs hs') hu (by simp only [SeqAt.noMix]; exact noMix_strs ns ms) (by simp only [PySem.Spec.same]; rw [same_strs]; exact h)
theorem ne_strsK {a b : Addr} {vs us : List Value} {ns ms : List Str} {Q : Value → Shared → Prop} (hl : s.heap.IsList a vs.toArray) (hi : StrsAre vs ns) (hl' : s.heap.IsList b us.toArray) (hi' : StrsAre us ms) (hs : ns.all PyData.strOk = true) (hs' : ms.all PyData.strOk = true) (hu : A.units + 64 < cLine)
    (h : Q (.bool (!decide (ns = ms))) s) : wpAny (model prog w) A (compareOp .NotEq (.ref a) (.ref b)) Q E s :=
  ne_dataH_same (reads_of_strs hl hi) (reads_of_strs hl' hi') (shaped_strs hs) (shaped_strs hs') hu (by simp only [SeqAt.noMix]; exact noMix_strs ns ms) (by simp only [PySem.Spec.same]; rw [same_strs]; exact h)
end

section
variable {W : Wd} {S : Sit} {ρ : Rho} {st st' : St} {s : Shared}

theorem KVRel.length {K : Type} : ∀ {ρ : Rho} {es : List (K × CV)} {kvs : List (K × Value)}, KVRel ρ es kvs → es.length = kvs.length
  | _, [], [], _ => rfl
  | _, _ :: _, _ :: _, ⟨_, _, r⟩ => by simp [KVRel.length r]
  | _, [], _ :: _, h => h.elim
  | _, _ :: _, [], h => h.elim
noncomputable def lk {K : Type} [DecidableEq K] (es : List (K × CV)) (k : K) : Option CV := match es with
  | [] => none
  | e :: r => if e.1 = k then some e.2 else lk r k
theorem lkS_eq (es : List (Str × CV)) (s : Str) : lkS es s = lk es s := by
  induction es with
  | nil => rfl
  | cons e r ih => unfold lkS lk; rw [ih]
theorem lkI_eq (es : List (Int × CV)) (s : Int) : lkI es s = lk es s := by
  induction es with
  | nil => rfl
  | cons e r ih => unfold lkI lk; rw [ih]
theorem KVRel.lk {K : Type} [DecidableEq K] (k : K) : ∀ {ρ : Rho} {es : List (K × CV)} {kvs : List (K × Value)}, KVRel ρ es kvs → OVRel ρ (lk es k) (valueAt kvs k)
  | _, [], [], _ => rfl
  | ρ, e :: es, v :: vs, ⟨h, q, r⟩ => by
    have ih := KVRel.lk k r
    unfold Mine.lk valueAt
    rw [List.find?_cons]
    by_cases he : e.1 = k
    · have hv : v.1 = k := h ▸ he
      rw [if_pos he]
      simp only [hv, decide_true]
      exact ⟨v.2, rfl, q⟩
    · have hv : ¬ v.1 = k := h ▸ he
      rw [if_neg he]
      simp only [hv, decide_false]
      exact ih
  | _, [], _ :: _, h => h.elim
  | _, _ :: _, [], h => h.elim
theorem OVRel.isSome : ∀ {ρ : Rho} {c : Option CV} {v : Option Value}, OVRel ρ c v → v.isSome = c.isSome
  | _, none, _, h => by rw [h]; rfl
  | _, some _, _, ⟨u, h, _⟩ => by rw [h]; rfl

theorem opt_map {α β : Type} {c : Option α} {f : α → β} {r : β} (h : c.map f = some r) : ∃ z, c = some z ∧ f z = r := Option.map_eq_some_iff.mp h
theorem inO_sound (O : Ok W S ρ st s.heap) {a : CV} {k : Nat} {co : CO} {r : Bool} {u u' : Value} (hk : st.heap[k]? = some co) (h : inO a co = some r) (ha : VRel ρ a u) (hb : VRel ρ (.ref k) u')
    {Q : Value → Shared → Prop} {E : Value → Shared → Prop} : ((∀ tk, Q (.bool r) { s with toks := tk }) → wpAny (model W.prog W.w) S.A (compareOp .In u u') Q E s) ∧ ((∀ tk, Q (.bool !r) { s with toks := tk }) → wpAny (model W.prog W.w) S.A (compareOp .NotIn u u') Q E s) := by
  induction a with
  | str x =>
    obtain ⟨t, rfl⟩ := ha
    induction co with
    | list xs =>
      obtain ⟨ys, q, h⟩ := opt_map h
      cases h
      obtain ⟨aa, vs, n, rfl, _, h1, h2⟩ := O.list hk hb
      have hl : s.heap.IsList aa vs.toList.toArray := ⟨_, h1, rfl, n, by simp⟩
      exact ⟨fun hQ => in_list_strs hl (h2.strs q) (hQ _), fun hQ => notin_list_strs hl (h2.strs q) (hQ _)⟩
    | dictS es ep =>
      cases h
      obtain ⟨aa, kvs, rep, rfl, _, h1, h2, h3, _⟩ := O.dictS hk hb
      have e := (h2.lk x).isSome
      rw [← lkS_eq] at e
      exact ⟨fun hQ => wpAny_in_of (strKind_is _ _ _ _) (sysM h3) h1.dictOf.mapOf (by rw [e]; exact hQ _), fun hQ => wpAny_notIn_of (strKind_is _ _ _ _) (sysM h3) h1.dictOf.mapOf (by rw [e]; exact hQ _)⟩
    | set xs =>
      cases h
      obtain ⟨aa, n, rfl, _, h1, _⟩ := O.set hk hb
      exact ⟨fun hQ => wpAny_inSet_of (strKind_is _ _ _ _) rfl h1 (hQ _), fun hQ => wpAny_notInSet_of (strKind_is _ _ _ _) rfl h1 (hQ _)⟩
    | _ => exact nope h
  | int x =>
    obtain ⟨t, rfl⟩ := ha
    induction co with
    | list xs =>
      obtain ⟨ys, q, h⟩ := opt_map h
      cases h
      obtain ⟨aa, vs, n, rfl, _, h1, h2⟩ := O.list hk hb
      have hl : s.heap.IsList aa vs.toList.toArray := ⟨_, h1, rfl, n, by simp⟩
      exact ⟨fun hQ => in_list_ints hl (h2.ints q) (hQ _), fun hQ => notin_list_ints hl (h2.ints q) (hQ _)⟩
    | dictI es ep =>
      cases h
      obtain ⟨aa, kvs, rep, rfl, _, h1, h2, h3, _⟩ := O.dictI hk hb
      have e := (h2.lk x).isSome
      rw [← lkI_eq] at e
      exact ⟨fun hQ => wpAny_in_of (intKind_is _ _ _ _) (sysM h3) h1.dictOf.mapOf (by rw [e]; exact hQ _), fun hQ => wpAny_notIn_of (intKind_is _ _ _ _) (sysM h3) h1.dictOf.mapOf (by rw [e]; exact hQ _)⟩
    | _ => exact nope h
  | _ => exact nope h
end
end Mine
end

section
set_option genSizeOf false
set_option genInjectivity false
set_option maxHeartbeats 4000000
namespace Mine
section
variable {W : Wd} {S : Sit} {ρ : Rho} {st st' : St} {s : Shared}

theorem lk_allI {fs : List (Str × CV)} (h : allI fs = true) {k : Str} {c : CV} (q : lk fs k = some c) : ∃ i, c = .int i := by
  induction fs with
  | nil => exact nope q
  | cons e r ih =>
    unfold allI at h
    rw [List.all_cons, Bool.and_eq_true] at h
    unfold lk at q
    by_cases p : e.1 = k
    · rw [if_pos p] at q
      obtain rfl := Option.some.inj q
      replace h := h.1
      revert h
      generalize e.2 = y
      intro h
      induction y with
      | int i => exact ⟨i, rfl⟩
      | _ => exact Bool.noConfusion h
    · rw [if_neg p] at q
      exact ih h.2 q
theorem hits_of {A : Around} {fs : List (Str × CV)} {lvs : List (Str × Value)} (hf : allI fs = true) (R : KVRel ρ fs lvs) : ∀ {es : List (Str × CV)} {kvs : List (Str × Value)}, allI es = true → KVRel ρ es kvs →
    KeqHits A s lvs kvs (es.all fun e => decide (lkS fs e.1 = some e.2))
  | [], [], _, _ => .nil
  | e :: es, v :: vs, ha, ⟨h, q, r⟩ => by
    unfold allI at ha
    rw [List.all_cons, Bool.and_eq_true] at ha
    have ih := hits_of hf R (A := A) (es := es) (kvs := vs) ha.2 r
    obtain ⟨k, c⟩ := e
    obtain ⟨k', y⟩ := v
    dsimp only at h q ha
    subst h
    have hl := R.lk k
    rw [List.all_cons]
    simp only [lkS_eq] at ih ⊢
    cases hc : lk fs k with
    | none =>
      rw [hc] at hl
      simp only [reduceCtorEq, decide_false, Bool.false_and]
      exact .miss hl
    | some d =>
      rw [hc] at hl
      obtain ⟨z, hz, hd⟩ := hl
      obtain ⟨j, rfl⟩ := lk_allI hf hc
      obtain ⟨i, rfl⟩ : ∃ i, c = .int i := by
        have h1 := ha.1
        induction c with
        | int i => exact ⟨i, rfl⟩
        | _ => (first | exact nope h1 | refine some_elim h1 ?_ | cases h1)
      obtain ⟨t, rfl⟩ := hd
      obtain ⟨t', rfl⟩ := q
      have e : decide (some (CV.int j) = some (CV.int i)) = (i == j) := by
        by_cases e : i = j
        · subst e; simp
        · simp [e, Ne.symm e]
      rw [e]
      exact .hit hz (fun prog w E Q h => wpAny_eqBool_int h) ih
  | [], _ :: _, _, h => h.elim
  | _ :: _, [], _, h => h.elim

theorem eqD_sound (O : Ok W S ρ st s.heap) {k l ep fp : Nat} {es fs : List (Str × CV)} {r : Bool} {u u' : Value} (hk : st.heap[k]? = some (.dictS es ep)) (hl : st.heap[l]? = some (.dictS fs fp)) (h : eqO (.dictS es ep) (.dictS fs fp) = some r) (ha : VRel ρ (.ref k) u) (hb : VRel ρ (.ref l) u')
    {Q : Value → Shared → Prop} {E : Value → Shared → Prop} : (Q (.bool r) s → wpAny (model W.prog W.w) S.A (compareOp .Eq u u') Q E s) ∧ (Q (.bool !r) s → wpAny (model W.prog W.w) S.A (compareOp .NotEq u u') Q E s) := by
  obtain ⟨q, h⟩ := if_inv2 h
  rw [Bool.and_eq_true] at q
  cases h
  obtain ⟨a, kvs, rep, rfl, _, h1, h2, h3, _⟩ := O.dictS hk ha
  obtain ⟨b, lvs, rep', rfl, _, h4, h5, h6, _⟩ := O.dictS hl hb
  have e : (kvs.length == lvs.length) = decide (es.length = fs.length) := by
    rw [h2.length, h5.length]
    by_cases e : kvs.length = lvs.length <;> simp [e]
  constructor <;> intro hQ
  · refine keq_eq (sysM h3) (sysM h6) h1.dictOf h4.dictOf O.ctx.one (fun _ => hits_of q.2 h5 q.1 h2) ?_
    rw [e]; exact hQ
  · refine keq_ne (sysM h3) (sysM h6) h1.dictOf h4.dictOf O.ctx.one (fun _ => hits_of q.2 h5 q.1 h2) ?_
    rw [e]; exact hQ
theorem eqL_sound (O : Ok W S ρ st s.heap) {k l : Nat} {xs ys : List CV} {r : Bool} {u u' : Value} (hk : st.heap[k]? = some (.list xs)) (hl : st.heap[l]? = some (.list ys)) (h : eqO (.list xs) (.list ys) = some r) (ha : VRel ρ (.ref k) u) (hb : VRel ρ (.ref l) u')
    {Q : Value → Shared → Prop} {E : Value → Shared → Prop} : (Q (.bool r) s → wpAny (model W.prog W.w) S.A (compareOp .Eq u u') Q E s) ∧ (Q (.bool !r) s → wpAny (model W.prog W.w) S.A (compareOp .NotEq u u') Q E s) := by
  unfold eqO at h
  try dsimp only at h
  cases hx : strsOf xs with
  | none => rw [hx] at h; exact nope h
  | some x =>
    cases hy : strsOf ys with
    | none => rw [hx, hy] at h; exact nope h
    | some y =>
      rw [hx, hy] at h
      obtain ⟨q, h⟩ := if_inv2 h
      rw [Bool.and_eq_true] at q
      cases h
      obtain ⟨a, vs, n, rfl, _, h1, h2⟩ := O.list hk ha
      obtain ⟨b, ws, m, rfl, _, h3, h4⟩ := O.list hl hb
      have hu : S.A.units + 64 < cLine := Nat.lt_of_le_of_lt (Nat.add_le_add (Nat.le_add_right _ _) (by decide)) O.ctx.units
      have l1 : s.heap.IsList a vs.toList.toArray := ⟨_, h1, rfl, n, by simp⟩
      have l2 : s.heap.IsList b ws.toList.toArray := ⟨_, h3, rfl, m, by simp⟩
      exact ⟨fun hQ => eq_strsK l1 (h2.strs hx) l2 (h4.strs hy) q.1 q.2 hu hQ, fun hQ => ne_strsK l1 (h2.strs hx) l2 (h4.strs hy) q.1 q.2 hu hQ⟩
theorem eqO_sound (O : Ok W S ρ st s.heap) {k l : Nat} {co cp : CO} {r : Bool} {u u' : Value} (hk : st.heap[k]? = some co) (hl : st.heap[l]? = some cp) (h : eqO co cp = some r) (ha : VRel ρ (.ref k) u) (hb : VRel ρ (.ref l) u')
    {Q : Value → Shared → Prop} {E : Value → Shared → Prop} : (Q (.bool r) s → wpAny (model W.prog W.w) S.A (compareOp .Eq u u') Q E s) ∧ (Q (.bool !r) s → wpAny (model W.prog W.w) S.A (compareOp .NotEq u u') Q E s) := by
  induction co with
  | dictS es ep =>
    induction cp with
    | dictS fs fp => exact eqD_sound O hk hl h ha hb
    | _ => exact nope h
  | list xs =>
    induction cp with
    | list ys => exact eqL_sound O hk hl h ha hb
    | _ => exact nope h
  | _ => exact nope h

theorem isNone {a : CV} {u : Value} (h : VRel ρ a u) (h1 : a ≠ .none) (h2 : ∀ v, a ≠ .lit v) : plainIs u .none = true ∧ u ≠ .none := by
  induction a with
  | none => exact absurd rfl h1
  | bool b => (first | exact nope h | refine rt_elim h ?_ | cases h); exact ⟨rfl, fun e => by cases e⟩
  | int i => obtain ⟨t, rfl⟩ := h; exact ⟨rfl, fun e => by cases e⟩
  | str x => obtain ⟨t, rfl⟩ := h; exact ⟨rfl, fun e => by cases e⟩
  | ref k => obtain ⟨_, _, _, rfl⟩ := h; exact ⟨rfl, fun e => by cases e⟩
  | lit v => exact absurd rfl (h2 v)

inductive IsR (v : CV) (st st' : St) : CV → Bool → Prop
  | none (b : Bool) (h : some (CV.bool b, st) = some (v, st')) : IsR v st st' .none b
  | other (a : CV) (b : Bool) (n1 : a ≠ .none) (n2 : ∀ w, a ≠ .lit w) (h : some (CV.bool !b, st) = some (v, st')) : IsR v st st' a b
theorem is_inv {a v : CV} {b : Bool} (h : (match a with | .none => rt (CV.bool b) | .lit _ => no | _ => rt (.bool !b)) st = some (v, st')) : IsR v st st' a b := by
  induction a with
  | none => exact .none b h
  | lit _ => exact nope h
  | _ => exact .other _ b nofun (fun _ => nofun) h
theorem cmp_is (O : Ok W S ρ st s.heap) {a b v : CV} {u u' : Value} (h : cmpV .Is a b st = some (v, st')) (ha : VRel ρ a u) (hb : VRel ρ b u') : Does W S ρ s (compareOp .Is u u') st' (fun ρ' r => VRel ρ' v r) := by
  induction b with
  | none =>
    cases hb
    replace h : IsR v st st' a true := is_inv h
    cases h with
    | none _ h => cases ha; cases h; exact Does.tok O fun Q E hQ => wpAny_is_self rfl (hQ _ s.toks rfl)
    | other _ _ n1 n2 h =>
      have q := isNone ha n1 n2
      cases h
      exact Does.tok O fun Q E hQ => wpAny_is_other q.1 q.2 (hQ _ s.toks rfl)
  | _ => exact nope h
theorem cmp_isNot (O : Ok W S ρ st s.heap) {a b v : CV} {u u' : Value} (h : cmpV .IsNot a b st = some (v, st')) (ha : VRel ρ a u) (hb : VRel ρ b u') : Does W S ρ s (compareOp .IsNot u u') st' (fun ρ' r => VRel ρ' v r) := by
  induction b with
  | none =>
    cases hb
    replace h : IsR v st st' a false := is_inv h
    cases h with
    | none _ h => cases ha; cases h; exact Does.tok O fun Q E hQ => wpAny_isNot_self rfl (hQ _ s.toks rfl)
    | other _ _ n1 n2 h =>
      have q := isNone ha n1 n2
      cases h
      exact Does.tok O fun Q E hQ => wpAny_isNot_other q.1 q.2 (hQ _ s.toks rfl)
  | _ => exact nope h
inductive InR (a v : CV) (k : Nat) (co : CO) (f : Bool → Bool) (st st' : St) : Prop
  | mk (r : Bool) (e : st.heap[k]? = some co) (q : inO a co = some r) (h : some (CV.bool (f r), st) = some (v, st'))
theorem in_inv {a b v : CV} {f : Bool → Bool} (h : bnd (look b) (fun o => match inO a o.2 with | some r => rt (CV.bool (f r)) | none => no) st = some (v, st')) : ∃ k co, b = .ref k ∧ InR a v k co f st st' := by
  replace h := bnd_look h
  obtain ⟨k, co, rfl, e2, h⟩ := h
  try dsimp only at h
  cases q : inO a co with
  | none => rw [q] at h; exact nope h
  | some r => rw [q] at h; exact ⟨k, co, rfl, r, e2, q, h⟩
inductive RefsR (k l : Nat) (g : Bool → M CV) (st : St) (r : CV × St) : Prop
  | mk (co cp : CO) (b : Bool) (e2 : st.heap[k]? = some co) (e4 : st.heap[l]? = some cp) (q : eqO co cp = some b) (h : g b st = some r)
theorem refs_inv {k l : Nat} {g : Bool → M CV} {r : CV × St} (h : bnd (look (.ref k)) (fun x => bnd (look (.ref l)) fun y => match eqO x.2 y.2 with | some b => g b | none => no) st = some r) : RefsR k l g st r := by
  obtain ⟨k1, co, e1, e2, h⟩ := bnd_look h
  obtain ⟨k2, cp, e3, e4, h⟩ := bnd_look h
  cases e1
  cases e3
  try dsimp only at h
  cases q : eqO co cp with
  | none => rw [q] at h; exact nope h
  | some b => rw [q] at h; exact ⟨co, cp, b, e2, e4, q, h⟩
theorem cmp_eq (O : Ok W S ρ st s.heap) {a b v : CV} {u u' : Value} (h : cmpV .Eq a b st = some (v, st')) (ha : VRel ρ a u) (hb : VRel ρ b u') : Does W S ρ s (compareOp .Eq u u') st' (fun ρ' r => VRel ρ' v r) := by
  induction a with
  | int x =>
    induction b with
    | int y => obtain ⟨t, rfl⟩ := ha; obtain ⟨t', rfl⟩ := hb; exact rt_elim h (Does.tok O fun Q E hQ => PyProof.Rows.eq_int (hQ _ s.toks rfl))
    | _ => exact nope h
  | str x =>
    induction b with
    | str y => obtain ⟨t, rfl⟩ := ha; obtain ⟨t', rfl⟩ := hb; exact rt_elim h (Does.tok O fun Q E hQ => PyProof.Rows.eq_str (hQ _ s.toks rfl))
    | _ => exact nope h
  | ref k =>
    induction b with
    | ref l =>
      obtain ⟨co, cp, r, e2, e4, q, h⟩ := refs_inv (g := fun r => rt (.bool r)) h
      exact rt_elim h (Does.tok O fun Q E hQ => (eqO_sound O e2 e4 q ha hb).1 (hQ _ s.toks rfl))
    | _ => exact nope h
  | _ => exact nope h
theorem cmp_ne (O : Ok W S ρ st s.heap) {a b v : CV} {u u' : Value} (h : cmpV .NotEq a b st = some (v, st')) (ha : VRel ρ a u) (hb : VRel ρ b u') : Does W S ρ s (compareOp .NotEq u u') st' (fun ρ' r => VRel ρ' v r) := by
  induction a with
  | int x =>
    induction b with
    | int y => obtain ⟨t, rfl⟩ := ha; obtain ⟨t', rfl⟩ := hb; exact rt_elim h (Does.tok O fun Q E hQ => PyProof.Rows.ne_int (hQ _ s.toks rfl))
    | _ => exact nope h
  | str x =>
    induction b with
    | str y => obtain ⟨t, rfl⟩ := ha; obtain ⟨t', rfl⟩ := hb; exact rt_elim h (Does.tok O fun Q E hQ => PyProof.Rows.ne_str (hQ _ s.toks rfl))
    | _ => exact nope h
  | ref k =>
    induction b with
    | ref l =>
      obtain ⟨co, cp, r, e2, e4, q, h⟩ := refs_inv (g := fun r => rt (.bool !r)) h
      exact rt_elim h (Does.tok O fun Q E hQ => (eqO_sound O e2 e4 q ha hb).2 (hQ _ s.toks rfl))
    | _ => exact nope h
  | _ => exact nope h
inductive OrdR (a b : CV) (f : Int → Int → Bool) (st : St) (r : CV × St) : Prop
  | mk (x y : Int) (e1 : a = .int x) (e2 : b = .int y) (h : some (CV.bool (f x y), st) = some r)
theorem ord_inv {a b : CV} {r : CV × St} {f : Int → Int → Bool} (h : (match a, b with
    | .int x, .int y => rt (CV.bool (f x y))
    | .str _, .str _ => no
    | .ref _, .ref _ => bnd (look a) fun x => bnd (look b) fun y => match eqO x.2 y.2 with
      | some _ => no
      | none => no
    | _, _ => no) st = some r) : OrdR a b f st r := by
  induction a with
  | int x =>
    induction b with
    | int y => exact ⟨x, y, rfl, rfl, h⟩
    | _ => exact nope h
  | str x => induction b <;> exact nope h
  | ref k =>
    induction b with
    | ref l => obtain ⟨co, cp, r, e2, e4, q, h⟩ := refs_inv (g := fun _ => no) h; exact nope h
    | _ => exact nope h
  | _ => exact nope h
theorem cmp_sound (O : Ok W S ρ st s.heap) {op : CmpOp} {a b v : CV} {u u' : Value} (h : cmpV op a b st = some (v, st')) (ha : VRel ρ a u) (hb : VRel ρ b u') :
    Does W S ρ s (compareOp op u u') st' (fun ρ' r => VRel ρ' v r) := by
  cases op with
  | Is => exact cmp_is O h ha hb
  | IsNot => exact cmp_isNot O h ha hb
  | In =>
    obtain ⟨k, co, rfl, r, e, q, h⟩ := in_inv (f := fun r => r) h
    cases h
    exact Does.tok O fun Q E hQ => (inO_sound O e q ha hb).1 fun tk => hQ _ tk rfl
  | NotIn =>
    obtain ⟨k, co, rfl, r, e, q, h⟩ := in_inv (f := fun r => !r) h
    cases h
    exact Does.tok O fun Q E hQ => (inO_sound O e q ha hb).2 fun tk => hQ _ tk rfl
  | Eq => exact cmp_eq O h ha hb
  | NotEq => exact cmp_ne O h ha hb
  | Lt =>
    obtain ⟨x, y, rfl, rfl, h⟩ := ord_inv (f := fun x y => decide (x < y)) h
    obtain ⟨t, rfl⟩ := ha; obtain ⟨t', rfl⟩ := hb
    exact rt_elim h (Does.tok O fun Q E hQ => PyProof.Rows.lt_int (hQ _ s.toks rfl))
  | Gt =>
    obtain ⟨x, y, rfl, rfl, h⟩ := ord_inv (f := fun x y => decide (y < x)) h
    obtain ⟨t, rfl⟩ := ha; obtain ⟨t', rfl⟩ := hb
    exact rt_elim h (Does.tok O fun Q E hQ => PyProof.Rows.gt_int (hQ _ s.toks rfl))
  | GtE =>
    obtain ⟨x, y, rfl, rfl, h⟩ := ord_inv (f := fun x y => decide (y ≤ x)) h
    obtain ⟨t, rfl⟩ := ha; obtain ⟨t', rfl⟩ := hb
    exact rt_elim h (Does.tok O fun Q E hQ => PyProof.Rows.ge_int (hQ _ s.toks rfl))
  | _ =>
    induction a with
    | int x => induction b <;> exact nope h
    | str x => induction b <;> exact nope h
    | ref k =>
      induction b with
      | ref l => obtain ⟨co, cp, r, e2, e4, q, h⟩ := refs_inv (g := fun _ => no) h; exact nope h
      | _ => exact nope h
    | _ => exact nope h

theorem truth_sound (O : Ok W S ρ st s.heap) {a : CV} {b : Bool} {u : Value} (h : truth a st = some (b, st')) (ha : VRel ρ a u) : Does W S ρ s (truthy u) st' (fun _ r => r = b) := by
  induction a with
  | bool c =>
    cases ha
    exact rt_elim h (Does.quiet O fun Q E hQ => wpAny_truthy_bool (hQ _ s.heap s.toks (fun _ _ e => e) rfl))
  | int i =>
    obtain ⟨t, rfl⟩ := ha
    exact rt_elim h (Does.quiet O fun Q E hQ => truthy_int (hQ _ s.heap s.toks (fun _ _ e => e) rfl))
  | none =>
    cases ha
    exact rt_elim h (Does.quiet O fun Q E hQ => truthy_none (hQ _ s.heap s.toks (fun _ _ e => e) rfl))
  | ref k =>
    obtain ⟨k, co, e1, e2, h⟩ := bnd_look h
    cases e1
    induction co with
    | list xs =>
      obtain ⟨q, h⟩ := if_inv h
      refine rt_elim h ?_
      obtain ⟨aa, vs, n, rfl, _, h2, h3⟩ := O.list e2 ha
      have l1 := lenOk_le q
      have l2 := h3.length
      simp only [Array.length_toList] at l2
      refine Does.quiet O fun Q E hQ => wpAny_truthy_list (items := vs) ⟨_, h2, rfl, n, rfl⟩ (by omega) ?_
      have e : (!vs.isEmpty) = !xs.isEmpty := by
        have e1 : vs.isEmpty = decide (vs.size = 0) := rfl
        have e2 : xs.isEmpty = decide (xs.length = 0) := by cases xs <;> simp
        rw [e1, e2, l2]
      rw [e]
      exact hQ _ s.heap _ (fun _ _ e => e) rfl
    | _ => exact nope h
  | _ => exact nope h
end
end Mine
end

section
set_option genSizeOf false
set_option genInjectivity false
namespace Mine
section
variable {W : Wd} {S : Sit} {ρ : Rho} {st st' : St} {s : Shared}

theorem sub_ops (slice : Expr) (o i : Value) : ∃ ops, subscripted slice false o i = operate ops (getItem o i) := by
  cases slice with
  | Slice a b c d => cases c <;> exact ⟨_, rfl⟩
  | _ => exact ⟨_, rfl⟩
theorem tail_sound {value slice : Expr} {o i : Value} {T id : String} {P : Rho → Value → Prop} (hT : s.TypeIs o T) (hl : typeLookup (.type T) "__getitem__" = pure (some (.builtin id)))
    (h : Does W S ρ s (getItem o i) st' P) : Does W S ρ s (subscriptTail value slice o i) st' P := fun Q E hQ =>
  let ⟨_, e⟩ := sub_ops slice o i
  tail_any hT hl (h Q E hQ) e

theorem atI_some {α : Type} {xs : List α} {i : Int} {x : α} (h : atI xs i = some x) : ∃ j, seqIndex? i xs.length = some j ∧ xs[j]? = some x := by
  unfold atI at h
  unfold seqIndex?
  split at h
  · rename_i q
    have := (List.getElem?_eq_some_iff.mp h).1
    refine ⟨i.toNat, ?_, h⟩
    have q1 : ¬ i < 0 := by omega
    have q2 : i < (xs.length : Int) := by omega
    simp [q1, q2, q]
  · rename_i q
    split at h
    · rename_i q'
      have := (List.getElem?_eq_some_iff.mp h).1
      refine ⟨(i + xs.length).toNat, ?_, h⟩
      have q1 : i < 0 := by omega
      have q2 : i + (xs.length : Int) < xs.length := by omega
      simp only [q1, if_true, q', q2, decide_true, Bool.and_true]
    · (first | exact nope h | refine rt_elim h ?_ | cases h)

section
variable {x : Str} {v : CV} {u : Value} {value slice : Expr} {i : Int} {k : Nat} {t : Tok} {xs : List CV}
theorem sub_str (O : Ok W S ρ st s.heap) (h : subV (.str x) (.int i) st = some (v, st')) {t' : Tok} :
    Does W S ρ s (subscriptTail value slice (.str x t) (.int i t')) st' (fun ρ' r => VRel ρ' v r) := by
  unfold subV at h
  dsimp only at h
  cases q : (if (decide (0 ≤ i) && small i) = true then x.cps.toList[i.toNat]? else none : Option Nat) with
  | none => rw [q] at h; exact nope h
  | some c =>
    rw [q] at h
    cases h
    replace q := if_inv2 q
    obtain ⟨hsm, q⟩ := q
    rw [Bool.and_eq_true, decide_eq_true_eq] at hsm
    have h0 := hsm.1
    have hb := small_lt hsm.2
    have hlt := (List.getElem?_eq_some_iff.mp q).1
    rw [Array.length_toList] at hlt
    refine tail_sound (typeIs_str _ _ _) slot_str_getitem.lookup (Does.tok O fun Q E hQ => ?_)
    refine getItem_str (c := c) ?_ ?_ (hQ _ _ ⟨_, rfl⟩)
    · simp; omega
    · have e : seqIndex? i x.length = some i.toNat := by
        unfold seqIndex?
        have q1 : ¬ i < 0 := by omega
        have q2 : i < (x.length : Int) := by show i < (x.cps.size : Int); omega
        simp [q1, q2, h0]
      rw [e]
      simpa using q
inductive AtR (xs : List CV) (i : Int) (v : CV) (st st' : St) : Prop
  | mk (hl : lenOk xs = true) (hs : small i = true) (q : atI xs i = some v) (e : st = st')
theorem at_inv {f : Option CV → M CV} (hf : f = fun c => match c with | some v => rt v | none => no) (h : f (if (small i && lenOk xs) = true then atI xs i else none) st = some (v, st')) : AtR xs i v st st' := by
  subst hf
  cases q : (if (small i && lenOk xs) = true then atI xs i else none : Option CV) with
  | none => rw [q] at h; exact nope h
  | some w =>
    rw [q] at h
    cases h
    obtain ⟨hsm, q⟩ := if_inv2 q
    rw [Bool.and_eq_true] at hsm
    exact ⟨hsm.2, hsm.1, q, rfl⟩
theorem sub_list (O : Ok W S ρ st s.heap) (e2 : st.heap[k]? = some (.list xs)) (ha : VRel ρ (.ref k) u) (h : AtR xs i v st st') :
    Does W S ρ s (subscriptTail value slice u (.int i t)) st' (fun ρ' r => VRel ρ' v r) := by
  obtain ⟨hl, hs, q, rfl⟩ := h
  obtain ⟨aa, vs, n, rfl, _, h2, h3⟩ := O.list e2 ha
  have hsm' := small_lt hs
  have hL : s.heap.IsList aa vs := ⟨_, h2, rfl, n, rfl⟩
  have hlen := h3.length
  simp only [Array.length_toList] at hlen
  refine tail_sound ⟨_, h2, rfl⟩ slot_list_getitem.lookup (Does.tok O fun Q E hQ => ?_)
  unfold atI at q
  by_cases p : 0 ≤ i
  · rw [if_pos p] at q
    obtain ⟨y, hy, hv⟩ := h3.get q
    exact wpAny_getItem_list hL p (by omega) (by simpa using hy) (hQ _ s.toks hv)
  · rw [if_neg p] at q
    obtain ⟨p2, q⟩ := if_inv2 q
    obtain ⟨y, hy, hv⟩ := h3.get q
    refine wpAny_getItem_list_neg hL (by omega) (by omega) (by omega) ?_ (hQ _ s.toks hv)
    rw [← hlen]; simpa using hy
theorem sub_tuple (O : Ok W S ρ st s.heap) (e2 : st.heap[k]? = some (.tuple xs)) (ha : VRel ρ (.ref k) u) (h : AtR xs i v st st') :
    Does W S ρ s (subscriptTail value slice u (.int i t)) st' (fun ρ' r => VRel ρ' v r) := by
  obtain ⟨hl, hs, q, rfl⟩ := h
  obtain ⟨aa, vs, n, rfl, _, h2, h3⟩ := O.tuple e2 ha
  have hsm' := small_lt hs
  obtain ⟨j, hj, hx⟩ := atI_some q
  obtain ⟨y, hy, hv⟩ := h3.get hx
  have hlen := h3.length
  simp only [Array.length_toList] at hlen
  refine tail_sound ⟨_, h2, rfl⟩ slot_tuple_getitem.lookup (Does.tok O fun Q E hQ => ?_)
  exact getItem_tuple (items := vs) ⟨_, h2, rfl, n, rfl⟩ (by omega) (by omega) (by rw [← hlen]; exact hj) (by simpa using hy) (hQ _ s.toks hv)
theorem sub_dictS (O : Ok W S ρ st s.heap) {es : List (Str × CV)} {ep : Nat} (e2 : st.heap[k]? = some (.dictS es ep)) (ha : VRel ρ (.ref k) u) (q : lkS es x = some v) :
    Does W S ρ s (subscriptTail value slice u (.str x t)) st (fun ρ' r => VRel ρ' v r) := by
  obtain ⟨aa, kvs, rep, rfl, _, h2, h3, _, _⟩ := O.dictS e2 ha
  have := h3.lk x
  rw [← lkS_eq, q] at this
  obtain ⟨y, hy, hv⟩ := this
  exact tail_sound h2.dictOf.typeIs slot_dict_getitem.lookup (Does.tok O fun Q E hQ => wpAny_getItem_of (strKind_is _ _ _ _) h2.dictOf.mapOf hy (hQ _ _ hv))
theorem sub_dictI0 (O : Ok W S ρ st s.heap) {es : List (Int × CV)} {ep : Nat} (e2 : st.heap[k]? = some (.dictI es ep)) (ha : VRel ρ (.ref k) u) (q : lkI es i = some v) :
    Does W S ρ s (subscriptTail value slice u (.int i t)) st (fun ρ' r => VRel ρ' v r) := by
  obtain ⟨aa, kvs, rep, rfl, _, h2, h3, _, _⟩ := O.dictI e2 ha
  have := h3.lk i
  rw [← lkI_eq, q] at this
  obtain ⟨y, hy, hv⟩ := this
  exact tail_sound h2.dictOf.typeIs slot_dict_getitem.lookup (Does.tok O fun Q E hQ => wpAny_getItem_of (intKind_is _ _ _ _) h2.dictOf.mapOf hy (hQ _ _ hv))
end
theorem sub_sound (O : Ok W S ρ st s.heap) {a b v : CV} {u u' : Value} {value slice : Expr} (h : subV a b st = some (v, st')) (ha : VRel ρ a u) (hb : VRel ρ b u') :
    Does W S ρ s (subscriptTail value slice u u') st' (fun ρ' r => VRel ρ' v r) := by
  induction a with
  | str x =>
    obtain ⟨t, rfl⟩ := ha
    induction b with
    | int i => obtain ⟨t', rfl⟩ := hb; exact sub_str O h
    | _ => exact nope h
  | ref k =>
    unfold subV at h
    dsimp only at h
    replace h := bnd_look h
    obtain ⟨k', co, e1, e2, h⟩ := h
    cases e1
    dsimp only at h
    induction co with
    | list xs =>
      induction b with
      | int i => obtain ⟨t', rfl⟩ := hb; exact sub_list O e2 ha (at_inv rfl h)
      | _ => exact nope h
    | tuple xs =>
      induction b with
      | int i => obtain ⟨t', rfl⟩ := hb; exact sub_tuple O e2 ha (at_inv rfl h)
      | _ => exact nope h
    | dictS es ep =>
      induction b with
      | str x =>
        obtain ⟨t', rfl⟩ := hb
        dsimp only at h
        cases q : lkS es x with
        | none => rw [q] at h; exact nope h
        | some c => rw [q] at h; cases h; exact sub_dictS O e2 ha q
      | _ => exact nope h
    | dictI es ep =>
      induction b with
      | int i =>
        obtain ⟨t', rfl⟩ := hb
        dsimp only at h
        cases q : lkI es i with
        | none => rw [q] at h; exact nope h
        | some c => rw [q] at h; cases h; exact sub_dictI0 O e2 ha q
      | _ => exact nope h
    | _ => exact nope h
  | _ => exact nope h
end
end Mine
end

section
set_option genSizeOf false
set_option genInjectivity false
set_option maxHeartbeats 4000000
namespace Mine

theorem findIdx_toList {α : Type} (p : α → Bool) (es : Array α) : es.toList.findIdx? p = es.findIdx? p := by obtain ⟨l⟩ := es; simp
theorem dictSet_at {prog : Program} {w : World} {K : Type} [DecidableEq K] {knd : KeyKind prog w K} {A : Around} {E : Value → Shared → Prop} {s : Shared} {d : Addr} {kvs : List (K × Value)} {ep : Nat} {k : K} {key v : Value} {Q : Unit → Shared → Prop}
    (hkey : knd.is k key = true) (hm : s.heap.DictAt knd d kvs ep) (hsz : kvs.length ≤ sizeLine)
    (hQ : ∀ h', h'.DictAt knd d (stored kvs k v) (if kvs.any (fun kv => decide (kv.1 = k)) then ep else ep + 1) → Heap.SameBut d s.heap h' → Q () { s with heap := h', toks := s.toks + 1 }) : wpAny (model prog w) A (dictSet d key v) Q E s := by
  obtain ⟨o, es, ho, hc, hd, hk, hp, hn⟩ := hm
  have hes : es.size ≤ sizeLine := by have e1 := hp.length; rw [Array.length_toList] at e1; omega
  unfold dictSet
  try with_reducible refine wpAny_holding ?_
  refine wpAny_bind (knd.pyHash hkey ?_)
  unfold dictSetHashed
  try with_reducible refine wpAny_holding ?_
  refine wpAny_bind (wpAny_dictFind_of (s := { s with toks := s.toks + 1 }) hkey ho hd hk ?_)
  have hidx : (es.findIdx? fun e => knd.is k e.key) = kvs.findIdx? fun kv => decide (kv.1 = k) := by rw [← hp.findIdx k, findIdx_toList]
  cases hi : es.findIdx? fun e => knd.is k e.key with
  | some i =>
    have hany : (kvs.any fun kv => decide (kv.1 = k)) = true := any_of_findIdx_some (hidx ▸ hi)
    have hst : stored kvs k v = kvs.map (fun kv => if kv.1 = k then (kv.1, v) else kv) := by rw [stored, if_pos hany]
    rw [if_pos hany] at hQ
    refine wpAny_bind (wpAny_rule (wpAny_bind (wpAny_updateDict (s := { s with toks := s.toks + 1 }) ho hd (wpAny_point (hQ _ ⟨_, _, Heap.get?_update_self _ ho (Obj.isFreed_of_dict (Obj.data_mapDict hd _)),
      hc.mapDict _, Obj.data_mapDict hd _, hk.modify _ _, ?_, ?_⟩ (Heap.SameBut.update ..))))))
    · rw [hst, Array.toList_modify]
      exact hp.modify hn (by rw [findIdx_toList]; exact hi) v
    · rw [hst, keys_map_store]; exact hn
  | none =>
    have hnot : k ∉ kvs.map (·.1) := not_mem_of_findIdx_none (hidx ▸ hi)
    have hany : ¬ (kvs.any fun kv => decide (kv.1 = k)) = true := by
      rw [List.any_eq_true]; rintro ⟨kv, hkv, he⟩
      exact hnot (List.mem_map.mpr ⟨kv, hkv, of_decide_eq_true he⟩)
    have hst : stored kvs k v = kvs ++ [(k, v)] := by rw [stored, if_neg hany]
    rw [if_neg hany] at hQ
    refine wpAny_bind (wpAny_rule (wpAny_updateDictKeys (hz := hes) (s := { s with toks := s.toks + 1 }) ho hd (hQ _ ⟨_, _, Heap.get?_update_self _ ho (Obj.isFreed_of_dict (Obj.data_mapDictKeys hd _)),
      hc.mapDictKeys _, Obj.data_mapDictKeys hd _, hk.push hkey _, ?_, ?_⟩ (Heap.SameBut.update ..))))
    · rw [hst, Array.toList_push]
      exact hp.append hkey (knd.hash k) v
    · rw [hst, List.map_append, List.nodup_append]
      refine ⟨hn, by simp, fun a ha b hb e => hnot ?_⟩
      rw [List.mem_singleton.mp hb] at e
      have e : a = k := e
      exact e ▸ ha
theorem setItem_at {prog : Program} {w : World} {K : Type} [DecidableEq K] {knd : KeyKind prog w K} {A : Around} {E : Value → Shared → Prop} {s : Shared} {d : Addr} {kvs : List (K × Value)} {ep : Nat} {k : K} {key v : Value} {Q : Unit → Shared → Prop}
    (hkey : knd.is k key = true) (hm : s.heap.DictAt knd d kvs ep) (hsz : kvs.length ≤ sizeLine)
    (hQ : ∀ h', h'.DictAt knd d (stored kvs k v) (if kvs.any (fun kv => decide (kv.1 = k)) then ep else ep + 1) → Heap.SameBut d s.heap h' → Q () { s with heap := h', toks := s.toks + 1 }) : wpAny (model prog w) A (setItem (.ref d) key v) Q E s := by
  have hT := hm.dictOf.typeIs
  unfold setItem
  try with_reducible refine wpAny_holding ?_
  refine wpAny_bind (wpAny_sequenceKey hT (by decide) ?_)
  refine wpAny_bind (wpAny_callSpecial?_slot (name := Str.ofString "__setitem__") hT slot_dict_setitem (wpAny_call_entry slot_dict_setitem hT entry_dict_setitem ?_ (args_dict_setitem _ _ _)))
  show wpAny _ _ (Builtin.Dict.notOrdered "__setitem__" ⟨[.ref d, key, v], []⟩ >>= _) _ _ s
  refine wpAny_bind (wpAny_notOrdered_dict hT ?_)
  show wpAny _ _ (dictSet d key v >>= _) _ _ s
  exact wpAny_bind (dictSet_at hkey hm hsz fun h' hm' hs' => wpAny_pure ⟨.none, rfl, wpAny_pure (hQ h' hm' hs')⟩)

noncomputable def pt {K : Type} [DecidableEq K] (es : List (K × CV)) (k : K) (v : CV) : List (K × CV) := match es with
  | [] => [(k, v)]
  | e :: r => if e.1 = k then (k, v) :: r else e :: pt r k v
theorem putS_eq (es : List (Str × CV)) (k : Str) (v : CV) : putS es k v = pt es k v := by
  induction es with
  | nil => rfl
  | cons e r ih => unfold putS pt; rw [ih]
theorem putI_eq (es : List (Int × CV)) (k : Int) (v : CV) : putI es k v = pt es k v := by
  induction es with
  | nil => rfl
  | cons e r ih => unfold putI pt; rw [ih]
theorem stored_cons_ne {K : Type} [DecidableEq K] {kv : K × Value} {r : List (K × Value)} {k : K} {v : Value} (h : ¬ kv.1 = k) : stored (kv :: r) k v = kv :: stored r k v := by
  unfold stored
  simp only [List.any_cons, h, decide_false, Bool.false_or, List.map_cons, if_false]
  split <;> simp
theorem KVRel.put {K : Type} [DecidableEq K] {ρ : Rho} (k : K) {c : CV} {v : Value} (hv : VRel ρ c v) : ∀ {es : List (K × CV)} {kvs : List (K × Value)}, (kvs.map (·.1)).Nodup → KVRel ρ es kvs → KVRel ρ (pt es k c) (stored kvs k v)
  | [], [], _, _ => ⟨rfl, hv, trivial⟩
  | e :: es, kv :: kvs, hn, ⟨h1, h2, h3⟩ => by
    rw [List.map_cons, List.nodup_cons] at hn
    unfold pt
    by_cases he : e.1 = k
    · have hk : kv.1 = k := h1 ▸ he
      rw [if_pos he]
      have e1 : stored (kv :: kvs) k v = (kv.1, v) :: kvs := by
        unfold stored
        simp only [List.any_cons, hk, decide_true, Bool.true_or, if_true, List.map_cons]
        rw [map_store_of_not_mem _ _ _ (by rw [← hk]; exact hn.1)]
      rw [e1]
      exact ⟨hk.symm, hv, h3⟩
    · have hk : ¬ kv.1 = k := h1 ▸ he
      rw [if_neg he, stored_cons_ne hk]
      exact ⟨h1, h2, KVRel.put k hv hn.2 h3⟩
  | [], _ :: _, _, h => h.elim
  | _ :: _, [], _, h => h.elim
theorem KVRel.any {K : Type} [DecidableEq K] {ρ : Rho} (k : K) : ∀ {es : List (K × CV)} {kvs : List (K × Value)}, KVRel ρ es kvs → (kvs.any fun kv => decide (kv.1 = k)) = (Mine.lk es k).isSome
  | [], [], _ => rfl
  | e :: es, kv :: kvs, ⟨h1, _, h3⟩ => by
    have ih := KVRel.any k h3
    rw [List.any_cons, ih, ← h1, show Mine.lk (e :: es) k = (if e.1 = k then some e.2 else Mine.lk es k) from rfl]
    by_cases he : e.1 = k <;> simp [he]
  | [], _ :: _, h => h.elim
  | _ :: _, [], h => h.elim
theorem epUp_is {there : Bool} {ep rep : Nat} (h : EpIs ep rep) : EpIs (epUp there ep) (if there then rep else rep + 1) := by
  unfold epUp EpIs
  intro hne
  induction there with
  | true => simp at hne ⊢; exact h hne
  | false =>
    simp at hne ⊢
    by_cases q : ep = unk
    · simp [q] at hne
    · rw [if_neg q]; rw [h q]

section
variable {W : Wd} {S : Sit} {ρ : Rho} {st st' : St} {s : Shared}
theorem Ok.update {h h' : Heap} (O : Ok W S ρ st h) {k : Nat} {co co' : CO} {as : List Addr} {os' : List Obj} (hk : ρ[k]? = some as) (hc : st.heap[k]? = some co) (hlo : st.lo ≤ k)
    (kp : ∀ b o, b ∉ as → h.get? b = some o → h'.get? b = some o) (hh : Has (At h') as os') (hs : Shape W.prog W.w ρ as os' co') : Ok W S ρ { st with heap := st.heap.set k co' } h' :=
  ⟨O.base, O.blt, O.env, O.top, O.ctx, O.lo, O.dep, O.rel.update hk hc hlo kp hh hs, fun p hp => (O.frs p hp).to (fun o => kp _ o fun q => (O.frs p hp).2.1 (List.mem_append.mpr (.inr (mem_own_obj hk hlo q)))) (O.frs p hp).2.1, O.trk⟩
theorem same_kp {a : Addr} {h h' : Heap} (hS : Heap.SameBut a h h') : ∀ b o, b ∉ [a] → h.get? b = some o → h'.get? b = some o := fun b o n e => (hS.2 b fun q => n (by rw [q]; exact .head _)).trans e

theorem VRels.set : ∀ {ρ : Rho} {xs : List CV} {vs : List Value} (i : Nat) {x : CV} {v : Value}, VRels ρ xs vs → VRel ρ x v → VRels ρ (xs.set i x) (vs.set i v)
  | _, [], [], _, _, _, _, _ => trivial
  | _, _ :: _, _ :: _, 0, _, _, ⟨_, r⟩, q => ⟨q, r⟩
  | _, _ :: _, _ :: _, i + 1, _, _, ⟨h, r⟩, q => ⟨h, r.set i q⟩
  | _, [], _ :: _, _, _, _, h, _ => h.elim
  | _, _ :: _, [], _, _, _, h, _ => h.elim

theorem setV_sound (O : Ok W S ρ st s.heap) {a b v : CV} {u u' u'' : Value} {x : Unit} (h : setV a b v st = some (x, st')) (ha : VRel ρ a u) (hb : VRel ρ b u') (hv : VRel ρ v u'') :
    Does W S ρ s (setItem u u' u'') st' (fun _ _ => True) := by
  replace h := bnd_look h
  obtain ⟨k, co, rfl, e2, h⟩ := h
  induction co with
  | list xs =>
    induction b with
    | int i =>
      obtain ⟨t, rfl⟩ := hb
      obtain ⟨q, h⟩ := if_inv h
      · simp only [Bool.and_eq_true, decide_eq_true_eq] at q
        (replace h := put_some h; obtain ⟨hlo, rfl⟩ := h)
        obtain ⟨aa, vs, n, rfl, hr, h2, h3⟩ := O.list e2 ha
        have hlen := h3.length
        simp only [Array.length_toList] at hlen
        have hl := lenOk_le q.2
        intro Q E hQ
        refine ki_setAt (n := n) h2 q.1.1 (by omega) (by omega) (hQ _ ρ _ (Ext.refl _) (O.update hr e2 hlo (same_kp (Heap.SameBut.update ..)) (os' := [{ cls := .type "list", data := .seq (vs.setIfInBounds i.toNat u'') n }]) ⟨?_, trivial⟩ ⟨aa, _, n, rfl, rfl, ?_⟩) trivial Same.rfl)
        · have := Heap.get?_update_self (Obj.mapSeq (·.setIfInBounds i.toNat u'')) h2 rfl
          rw [At, this]
          simp [Obj.mapSeq]
        · rw [Array.toList_setIfInBounds]
          exact h3.set _ hv
    | _ => exact nope h
  | dictS es ep =>
    induction b with
    | str x =>
      obtain ⟨t, rfl⟩ := hb
      obtain ⟨q, h⟩ := if_inv h
      · (replace h := put_some h; obtain ⟨hlo, rfl⟩ := h)
        obtain ⟨aa, kvs, rep, rfl, hr, h2, h3, h4, h5⟩ := O.dictS e2 ha
        have hl := lenOk_le q
        have hl2 := h3.length
        intro Q E hQ
        refine setItem_at (strKind_is _ _ _ _) h2 (by rw [sizeLine_is]; omega) fun h' hd hS => hQ _ ρ _ (Ext.refl _) ?_ trivial Same.rfl
        obtain ⟨o, res, g1, g2, g3, g4, g5, g6⟩ := hd
        refine O.update hr e2 hlo (same_kp hS) (os' := [o]) ⟨g1, trivial⟩ ⟨aa, o, res, _, _, ?_, rfl, rfl, g2, g3, g4, g5, g6, ?_⟩
        · rw [h3.any, ← lkS_eq]; exact epUp_is h5
        · rw [putS_eq]; exact h3.put _ hv h2.nodup
    | _ => exact nope h
  | dictI es ep =>
    induction b with
    | int x =>
      obtain ⟨t, rfl⟩ := hb
      obtain ⟨q, h⟩ := if_inv h
      · (replace h := put_some h; obtain ⟨hlo, rfl⟩ := h)
        obtain ⟨aa, kvs, rep, rfl, hr, h2, h3, h4, h5⟩ := O.dictI e2 ha
        have hl := lenOk_le q
        have hl2 := h3.length
        intro Q E hQ
        refine setItem_at (intKind_is _ _ _ _) h2 (by rw [sizeLine_is]; omega) fun h' hd hS => hQ _ ρ _ (Ext.refl _) ?_ trivial Same.rfl
        obtain ⟨o, res, g1, g2, g3, g4, g5, g6⟩ := hd
        refine O.update hr e2 hlo (same_kp hS) (os' := [o]) ⟨g1, trivial⟩ ⟨aa, o, res, _, _, ?_, rfl, rfl, g2, g3, g4, g5, g6, ?_⟩
        · rw [h3.any, ← lkI_eq]; exact epUp_is h5
        · rw [putI_eq]; exact h3.put _ hv h2.nodup
    | _ => exact nope h
  | _ => exact nope h
end
end Mine
end

section
set_option genSizeOf false
set_option genInjectivity false
namespace Mine

structure Tx where
  P : Prog
  W : Wd
  sc : Scope
  ks : Kinds
structure Tx.In (T : Tx) (S : Sit) : Prop where
  sc : S.env.scope = T.sc
  ks : S.ks = T.ks

noncomputable def FRel (ρ : Rho) : CF → Flow → Prop
  | .next, f => f = .next
  | .brk, f => f = .brk
  | .cont, f => f = .cont
  | .ret v, f => ∃ u, f = .ret u ∧ VRel ρ v u

noncomputable def Stood (S : Sit) (h h' : Heap) : Prop := ∀ a ∈ S.env.locals :: S.cs, ∀ o, h.get? a = some o → ∃ o', h'.get? a = some o' ∧ o'.data = o.data
noncomputable def ThenF {α : Type} (W : Wd) (S : Sit) (ρ : Rho) (s : Shared) (st' : St) (P : Rho → α → Prop) (Q : α → Shared → Prop) : Prop :=
  ∀ a ρ' s', Ext ρ ρ' → Ok W S ρ' st' s'.heap → P ρ' a → Same s s' → Stood S s.heap s'.heap → Q a s'
theorem Then.toF {α : Type} {W : Wd} {S : Sit} {ρ : Rho} {s : Shared} {st' : St} {P : Rho → α → Prop} {Q : α → Shared → Prop} (h : Then W S ρ s st' P Q) : ThenF W S ρ s st' P Q := fun a ρ' s' e o p m _ => h a ρ' s' e o p m
noncomputable def CallAt (P : Prog) (W : Wd) (n : Nat) : Prop := ∀ {S : Sit} {ρ : Rho} {st st' : St} {s : Shared} {f : Addr} {args : List CV} {us : List Value} {v : CV},
  Ok W S ρ st s.heap → (run P n).c f args st = some (v, st') → VRels ρ args us → ∀ (Q : Value → Shared → Prop) (E : Value → Shared → Prop), ThenF W S ρ s st' (fun ρ' r => VRel ρ' v r) Q → codeAny (model W.prog W.w) S.A (.call (.ref f) ⟨us, []⟩) (wants Q E) s
noncomputable def Calls (P : Prog) (W : Wd) (n : Nat) : Prop := ∀ m, m < n → CallAt P W m
theorem Calls.down {P : Prog} {W : Wd} {n : Nat} (h : Calls P W (n + 1)) : Calls P W n := fun m hm => h m (Nat.lt_succ_of_lt hm)

section
variable (T : Tx)
noncomputable def SE (ce : CE) (e : Expr) : Prop := ∀ (n : Nat), Calls T.P T.W n → ∀ {S : Sit} {ρ : Rho} {st st' : St} {s : Shared} {v : CV}, T.In S → Ok T.W S ρ st s.heap → (run T.P n).e ce st = some (v, st') →
  Does T.W S ρ s (eval e S.env) st' (fun ρ' r => VRel ρ' v r)
noncomputable def STt (ce : CE) (e : Expr) : Prop := ∀ (n : Nat), Calls T.P T.W n → ∀ {S : Sit} {ρ : Rho} {st st' : St} {s : Shared} {b : Bool}, T.In S → Ok T.W S ρ st s.heap → (run T.P n).t ce st = some (b, st') →
  Does T.W S ρ s (isTrue e S.env (eval e S.env)) st' (fun _ r => r = b)
noncomputable def SS (cs : CS) (t : Stmt) : Prop := ∀ (n : Nat), Calls T.P T.W n → ∀ {S : Sit} {ρ : Rho} {st st' : St} {s : Shared} {f : CF}, T.In S → Ok T.W S ρ st s.heap → (run T.P n).s cs st = some (f, st') →
  Does T.W S ρ s (exec t S.env) st' (fun ρ' r => FRel ρ' f r)
noncomputable def SB (cs : List CS) (t : List Stmt) : Prop := ∀ (n : Nat), Calls T.P T.W n → ∀ {S : Sit} {ρ : Rho} {st st' : St} {s : Shared} {f : CF}, T.In S → Ok T.W S ρ st s.heap → (run T.P n).b cs st = some (f, st') →
  Does T.W S ρ s (execs t S.env) st' (fun ρ' r => FRel ρ' f r)
structure SEs (ces : List CE) (es : List Expr) : Prop where
  plain : ∀ (env : Env) (pos : Pos), (backTo pos (starEach es env)).any (·.1) = false
  shape : es = [] ∨ ∀ (env : Env) (pos : Pos), ∃ x r, backTo pos (starEach es env) = (false, x) :: r
  does : ∀ (pos : Pos) (n : Nat), Calls T.P T.W n → ∀ {S : Sit} {ρ : Rho} {st st' : St} {s : Shared} {vs : List CV}, T.In S → Ok T.W S ρ st s.heap → evs (run T.P n) ces st = some (vs, st') →
    Does T.W S ρ s (spliced (backTo pos (starEach es S.env))) st' (fun ρ' r => VRels ρ' vs r)
end

section
variable {T : Tx}
inductive run_eR (n : Nat) (ce : CE) (st : St) (r : CV × St) : Prop
  | intro m (f1 : n = m + 1) (f2 : stepE T.P (run T.P m) ce st = some r)
theorem run_e {n : Nat} {ce : CE} {st : St} {r : CV × St} (h : (run T.P n).e ce st = some r) : run_eR (T := T) n ce st r := by
  cases n with
  | zero => (first | exact nope h | refine rt_elim h ?_ | cases h)
  | succ m => exact ⟨m, rfl, h⟩
inductive run_tR (n : Nat) (ce : CE) (st : St) (r : Bool × St) : Prop
  | intro m (f1 : n = m + 1) (f2 : stepT (run T.P m) ce st = some r)
theorem run_t {n : Nat} {ce : CE} {st : St} {r : Bool × St} (h : (run T.P n).t ce st = some r) : run_tR (T := T) n ce st r := by
  cases n with
  | zero => (first | exact nope h | refine rt_elim h ?_ | cases h)
  | succ m => exact ⟨m, rfl, h⟩
inductive run_sR (n : Nat) (cs : CS) (st : St) (r : CF × St) : Prop
  | intro m (f1 : n = m + 1) (f2 : stepS T.P (run T.P m) cs st = some r)
theorem run_s {n : Nat} {cs : CS} {st : St} {r : CF × St} (h : (run T.P n).s cs st = some r) : run_sR (T := T) n cs st r := by
  cases n with
  | zero => (first | exact nope h | refine rt_elim h ?_ | cases h)
  | succ m => exact ⟨m, rfl, h⟩
inductive run_bR (n : Nat) (cs : List CS) (st : St) (r : CF × St) : Prop
  | intro m (f1 : n = m + 1) (f2 : stepB (run T.P m) cs st = some r)
theorem run_b {n : Nat} {cs : List CS} {st : St} {r : CF × St} (h : (run T.P n).b cs st = some r) : run_bR (T := T) n cs st r := by
  cases n with
  | zero => (first | exact nope h | refine rt_elim h ?_ | cases h)
  | succ m => exact ⟨m, rfl, h⟩

noncomputable def TopVal (W : Wd) : CV → Value → Prop
  | .ref k, u => ∃ a, W.top[k]? = some a ∧ u = .ref a
  | v, u => VRel [] v u
theorem TopVal.rel {W : Wd} {S : Sit} {ρ : Rho} {st : St} {h : Heap} (O : Ok W S ρ st h) : ∀ {v : CV} {u : Value}, TopVal W v u → VRel ρ v u
  | .ref k, _, ⟨a, e, q⟩ => ⟨a, [], O.top k a e, q⟩
  | .none, _, h => h
  | .bool _, _, h => h
  | .int _, _, h => h
  | .str _, _, h => h
  | .lit _, _, h => h

theorem SE.int {i : Int} {k : Nat} {pos : Pos} : SE T (.const (.int i)) (.Constant (.int i) k pos) := fun n _ S ρ st st' s v _ O h => by
  replace h := run_e h
  obtain ⟨m, rfl, h⟩ := h
  (first | exact nope h | refine rt_elim h ?_ | cases h)
  exact Does.tok O fun Q E hQ => wpAny_Constant_int (hQ _ _ ⟨_, rfl⟩)
theorem SE.str {x : Str} {k : Nat} {pos : Pos} : SE T (.const (.str x)) (.Constant (.str x) k pos) := fun n _ S ρ st st' s v _ O h => by
  replace h := run_e h
  obtain ⟨m, rfl, h⟩ := h
  (first | exact nope h | refine rt_elim h ?_ | cases h)
  exact Does.tok O fun Q E hQ => wpAny_Constant_str (hQ _ _ ⟨_, rfl⟩)
theorem SE.nne {k : Nat} {pos : Pos} : SE T (.const .none) (.Constant .none k pos) := fun n _ S ρ st st' s v _ O h => by
  replace h := run_e h
  obtain ⟨m, rfl, h⟩ := h
  (first | exact nope h | refine rt_elim h ?_ | cases h)
  exact Does.tok O fun Q E hQ => wpAny_Constant_none (hQ _ s.toks rfl)
theorem SE.bool {b : Bool} {k : Nat} {pos : Pos} : SE T (.const (.bool b)) (.Constant (.bool b) k pos) := fun n _ S ρ st st' s v _ O h => by
  replace h := run_e h
  obtain ⟨m, rfl, h⟩ := h
  (first | exact nope h | refine rt_elim h ?_ | cases h)
  exact Does.tok O fun Q E hQ => wpAny_Constant_bool (hQ _ s.toks rfl)

theorem getL_some {i : Nat} {st st1 : St} {v : CV} (h : getL i st = some (v, st1)) : st.loc[i]? = some (some v) ∧ st1 = st := by
  unfold getL at h
  (first | (replace h := if_inv h; obtain ⟨e, h⟩ := h) | (replace h := if_inv2 h; obtain ⟨e, h⟩ := h) | (split at h; rotate_left; (focus cases h); rename_i e))
  · (first | exact nope h | refine rt_elim h ?_ | cases h); exact ⟨e, rfl⟩
theorem setL_some {i : Nat} {st st1 : St} {v : CV} {u : Unit} (h : setL i v st = some (u, st1)) : i < st.loc.length ∧ st1 = { st with loc := st.loc.set i (some v) } := by
  unfold setL at h
  (first | (replace h := if_inv h; obtain ⟨e, h⟩ := h) | (replace h := if_inv2 h; obtain ⟨e, h⟩ := h) | (split at h; rotate_left; (focus cases h); rename_i e))
  · (first | exact nope h | refine rt_elim h ?_ | cases h); exact ⟨e, rfl⟩

theorem load_sound {W : Wd} {S : Sit} {ρ : Rho} {st : St} {s : Shared} (O : Ok W S ρ st s.heap) {i : Nat} {x : Str} {k : SK} {v : CV} (hk : S.ks[i]? = some (x, k)) (ho : k ≠ .out) (h : st.loc[i]? = some (some v)) :
    Does W S ρ s (loadName S.env x) st (fun ρ' r => VRel ρ' v r) := by
  refine Does.tok O fun Q E hQ => ?_
  induction k with
  | out => exact absurd rfl ho
  | loc =>
    obtain ⟨m, n, r⟩ := O.rel.ns
    obtain ⟨u, e1, e2⟩ := r i x v hk h
    exact wpAny_loadName_local O.env.kind (O.env.loc i x hk) n e1 (hQ _ s.toks e2)
  | cell =>
    obtain ⟨c, u, e1, _, e3, e4⟩ := O.rel.cel i x hk
    obtain ⟨u', rfl, e5⟩ := e4 v h
    exact wpAny_loadName_cell O.env.kind (O.env.cell i x hk) e1 e3 (hQ _ s.toks e5)
  | free =>
    obtain ⟨c, o, u, e1, e2, e3, e4⟩ := O.rel.fre i x hk
    obtain ⟨u', rfl, e5⟩ := e4 v h
    exact wpAny_loadName_cell O.env.kind (O.env.free i x hk) e1 ⟨o, O.rel.base _ _ e2, e3⟩ (hQ _ s.toks e5)
theorem store_sound {W : Wd} {S : Sit} {ρ : Rho} {st st' : St} {s : Shared} (O : Ok W S ρ st s.heap) {i : Nat} {x : Str} {k : SK} {v : CV} {u : Value} {y : Unit} (hk : S.ks[i]? = some (x, k)) (ho : k = .loc ∨ k = .cell) (h : setL i v st = some (y, st')) (hv : VRel ρ v u) :
    Does W S ρ s (storeName S.env x u) st' (fun _ _ => True) := by
  (replace h := setL_some h; obtain ⟨hi, rfl⟩ := h)
  intro Q E hQ
  rcases ho with rfl | rfl
  · obtain ⟨m, n, r⟩ := O.rel.ns
    refine wpAny_storeName_local (O.env.loc i x hk) n (fun h' hN hS => hQ _ ρ _ (Ext.refl _) ⟨O.base, O.blt, O.env, O.top, O.ctx, O.lo, O.dep, ?_, fun p hp => (O.frs p hp).to (fun o e => (hS.2 p.1 fun q => (O.frs p hp).2.1 (by rw [q]; exact .head _)).trans e) (O.frs p hp).2.1, O.trk⟩ trivial Same.rfl) (by rw [O.env.kind]; rfl)
    exact O.rel.bind O.env hk hv hS fun m' hm' => by
      have : m' = m := by
        obtain ⟨o1, es1, ep1, a1, a2, _, a4⟩ := n
        obtain ⟨o2, es2, ep2, b1, b2, _, b4⟩ := hm'
        rw [a1] at b1; cases b1
        rw [a2] at b2; cases b2
        funext y; rw [← a4, ← b4]
      rw [this]; exact hN
  · obtain ⟨c, u', e1, e2, e3, e4⟩ := O.rel.cel i x hk
    refine wpAny_storeName_cell O.env.kind (O.env.cell i x hk) e1 e3 fun h' hN hS => hQ _ ρ _ (Ext.refl _) ⟨O.base, O.blt, O.env, O.top, O.ctx, O.lo, O.dep, ?_, fun p hp => (O.frs p hp).to (fun o e => (hS.2 p.1 fun q => (O.frs p hp).2.1 (by rw [q]; exact List.mem_append.mpr (.inl (.tail _ e2)))).trans e) (O.frs p hp).2.1, O.trk⟩ trivial Same.rfl
    exact O.rel.fill O.env hk e1 e2 hv hS hN

theorem SE.var {i : Nat} {x : Str} {k : SK} {pos : Pos} (hk : T.ks[i]? = some (x, k)) (ho : k ≠ .out := by decide) (hd : (x == ("__debug__" : Str)) = false := by decide) : SE T (.var i) (.Name x pos) := fun n _ S ρ st st' s v I O h => by
  replace h := run_e h
  obtain ⟨m, rfl, h⟩ := h
  (replace h := getL_some h; obtain ⟨e, rfl⟩ := h)
  exact fun Q E hQ => wpAny_Name (load_sound O (by rw [I.ks]; exact hk) ho e Q E hQ) hd
theorem kindOf_eq {env : Env} {sc : Scope} {x : Str} {k : Option NameKind} (h : env.scope = sc) (e : sc.names.lookup x = k) : env.kindOf x = k := by unfold Env.kindOf; rw [h]; exact e
theorem SE.glob {x : Str} {pos : Pos} {v : CV} {u : Value} (hx : T.sc.names.lookup x = some .globalImplicit) (hg : nsIn T.W.K mainGlobals x = some (some u)) (hv : TopVal T.W v u) (hd : (x == ("__debug__" : Str)) = false := by decide) : SE T (.glob v) (.Name x pos) := fun n _ S ρ st st' s v I O h => by
  replace h := run_e h
  obtain ⟨m, rfl, h⟩ := h
  (first | exact nope h | refine rt_elim h ?_ | cases h)
  refine Does.tok O fun Q E hQ => Calls.Name_function_global O.env.kind (kindOf_eq I.sc hx) ?_ hd
  unfold loadGlobal
  rw [O.env.glob]
  refine wpAny_bind ((looks_nsIn O.inK hg) _ _ _ s (fun _ _ e => e) ?_)
  exact wpAny_pure (hQ _ s.toks (hv.rel O))
theorem SE.blt {x : Str} {pos : Pos} {v : CV} {u : Value} (hx : T.sc.names.lookup x = some .globalImplicit) (hg : nsIn T.W.K mainGlobals x = some none) (hb : bootBuiltins x = some u) (hv : TopVal T.W v u) (hn : x ≠ "__name__") (hd : (x == ("__debug__" : Str)) = false := by decide) : SE T (.glob v) (.Name x pos) := fun n _ S ρ st st' s v I O h => by
  replace h := run_e h
  obtain ⟨m, rfl, h⟩ := h
  (first | exact nope h | refine rt_elim h ?_ | cases h)
  refine Does.tok O fun Q E hQ => Calls.Name_function_global O.env.kind (kindOf_eq I.sc hx) ?_ hd
  unfold loadGlobal
  rw [O.env.glob]
  refine wpAny_bind ((looks_nsIn O.inK hg) _ _ _ s (fun _ _ e => e) ?_)
  rw [O.env.blt]
  obtain ⟨o, es, ep, b1, b2, b3, b4⟩ := O.blt
  refine wpAny_bind (wpAny_nsGet (m := fun y => nsFind es y) ⟨o, es, ep, O.rel.base _ _ b1, b2, b3, fun _ => rfl⟩ ?_)
  rw [b4 x hn, hb]
  exact wpAny_pure (hQ _ s.toks (hv.rel O))

theorem SE.bin {op : Operator} {a b : CE} {l r : Expr} {pos : Pos} (ha : SE T a l) (hb : SE T b r) : SE T (.bin op a b) (.BinOp l op r pos) := fun n C S ρ st st' s v I O h => by
  replace h := run_e h
  obtain ⟨m, rfl, h⟩ := h
  unfold stepE at h
  replace h := bnd_some h
  obtain ⟨x, st1, h1, h⟩ := h
  replace h := bnd_some h
  obtain ⟨y, st2, h2, h⟩ := h
  intro Q E hQ
  refine wpAny_BinOp (ha m C.down I O h1 _ _ fun u1 ρ1 s1 e1 O1 p1 m1 => hb m C.down I O1 h2 _ _ fun u2 ρ2 s2 e2 O2 p2 m2 => ?_)
  exact bin_sound O2 h (p1.mono e2) p2 _ _ fun u3 ρ3 s3 e3 O3 p3 m3 => hQ _ _ _ ((e1.trans e2).trans e3) O3 p3 ((m1.trans m2).trans m3)
theorem SE.cmp {op : CmpOp} {a b : CE} {l r : Expr} {pos : Pos} (ha : SE T a l) (hb : SE T b r) (hm : behindInMarks op r = false) : SE T (.cmp op a b) (.Compare l [op] [r] pos) := fun n C S ρ st st' s v I O h => by
  replace h := run_e h
  obtain ⟨m, rfl, h⟩ := h
  unfold stepE at h
  replace h := bnd_some h
  obtain ⟨x, st1, h1, h⟩ := h
  replace h := bnd_some h
  obtain ⟨y, st2, h2, h⟩ := h
  intro Q E hQ
  refine wpAny_Compare1 (ha m C.down I O h1 _ _ fun u1 ρ1 s1 e1 O1 p1 m1 => hb m C.down I O1 h2 _ _ fun u2 ρ2 s2 e2 O2 p2 m2 => ?_) hm
  exact cmp_sound O2 h (p1.mono e2) p2 _ _ fun u3 ρ3 s3 e3 O3 p3 m3 => hQ _ _ _ ((e1.trans e2).trans e3) O3 p3 ((m1.trans m2).trans m3)
theorem SE.neg {i : Int} {k : Nat} {pos pos' : Pos} : SE T (.neg (.const (.int i))) (.UnaryOp .USub (.Constant (.int i) k pos') pos) := fun n C S ρ st st' s v I O h => by
  replace h := run_e h
  obtain ⟨m, rfl, h⟩ := h
  unfold stepE at h
  replace h := bnd_some h
  obtain ⟨x, st1, h1, h⟩ := h
  replace h1 := run_e h1
  obtain ⟨m', rfl, h1⟩ := h1
  cases h1
  (first | exact nope h | refine rt_elim h ?_ | cases h)
  refine Does.tok O fun Q E hQ => wpAny_UnaryOp (wpAny_Constant_int ?_)
  exact PyProof.Rows.neg_int (hQ _ _ ⟨_, rfl⟩)
theorem SE.or {a b : CE} {x y : Expr} {pos : Pos} (ha : SE T a x) (hb : SE T b y) : SE T (.or a b) (.BoolOp .Or [x, y] pos) := fun n C S ρ st st' s v I O h => by
  replace h := run_e h
  obtain ⟨m, rfl, h⟩ := h
  unfold stepE at h
  replace h := bnd_some h
  obtain ⟨y, st1, h1, h⟩ := h
  replace h := bnd_some h
  obtain ⟨c, st2, h2, h⟩ := h
  intro Q E hQ
  refine wpAny_Or2 (ha m C.down I O h1 _ _ fun u1 ρ1 s1 e1 O1 p1 m1 => truth_sound O1 h2 p1 _ _ fun b' ρ2 s2 e2 O2 p2 m2 => ?_)
  subst p2
  induction b' with
  | false => exact hb m C.down I O2 h _ _ fun u3 ρ3 s3 e3 O3 p3 m3 => hQ _ _ _ ((e1.trans e2).trans e3) O3 p3 ((m1.trans m2).trans m3)
  | true => cases h; exact hQ _ _ _ (e1.trans e2) O2 (p1.mono e2) (m1.trans m2)
theorem SE.ite {t a b : CE} {test body orelse : Expr} {pos : Pos} (ht : STt T t test) (ha : SE T a body) (hb : SE T b orelse) : SE T (.ite t a b) (.IfExp test body orelse pos) := fun n C S ρ st st' s v I O h => by
  replace h := run_e h
  obtain ⟨m, rfl, h⟩ := h
  unfold stepE at h
  replace h := bnd_some h
  obtain ⟨c, st1, h1, h⟩ := h
  intro Q E hQ
  refine wpAny_IfExp (ht m C.down I O h1 _ _ fun c' ρ1 s1 e1 O1 p1 m1 => ?_)
  subst p1
  induction c' with
  | true => exact ha m C.down I O1 h _ _ fun u3 ρ3 s3 e3 O3 p3 m3 => hQ _ _ _ (e1.trans e3) O3 p3 (m1.trans m3)
  | false => exact hb m C.down I O1 h _ _ fun u3 ρ3 s3 e3 O3 p3 m3 => hQ _ _ _ (e1.trans e3) O3 p3 (m1.trans m3)
theorem wpAny_assign_Name {M : Model} {A : Around} {E : Value → Shared → Prop} {s : Shared} {env : Env} {x : Str} {pos : Pos} {v : Value} {Q : Unit → Shared → Prop} (h : wpAny M A (storeName env x v) Q E s) : wpAny M A (assign (.Name x pos) env v) Q E s := by
  show wpAny M A (do standAt pos; bindName env x v) Q E s
  exact wpAny_bind (wpAny_standAt (wpAny_bindName h))
theorem SE.walrus {i : Nat} {x : Str} {k : SK} {a : CE} {e : Expr} {pos pos' : Pos} (hk : T.ks[i]? = some (x, k)) (ha : SE T a e) (ho : k = .loc ∨ k = .cell := by decide) : SE T (.walrus i a) (.NamedExpr (.Name x pos') e pos) := fun n C S ρ st st' s v I O h => by
  replace h := run_e h
  obtain ⟨m, rfl, h⟩ := h
  unfold stepE at h
  replace h := bnd_some h
  obtain ⟨c, st1, h1, h⟩ := h
  replace h := bnd_some h
  obtain ⟨c2, st2, h2, h⟩ := h
  (first | exact nope h | refine rt_elim h ?_ | cases h)
  intro Q E hQ
  refine wpAny_NamedExpr (ha m C.down I O h1 _ _ fun c' ρ1 s1 e1 O1 p1 m1 => wpAny_assign_Name (store_sound O1 (by rw [I.ks]; exact hk) ho h2 p1 _ _ fun _ ρ2 s2 e2 O2 _ m2 => ?_))
  exact hQ _ _ _ (e1.trans e2) O2 (p1.mono e2) (m1.trans m2)
theorem SE.sub {a b : CE} {x y : Expr} {pos : Pos} (ha : SE T a x) (hb : SE T b y) : SE T (.sub a b) (.Subscript x y pos) := fun n C S ρ st st' s v I O h => by
  replace h := run_e h
  obtain ⟨m, rfl, h⟩ := h
  unfold stepE at h
  replace h := bnd_some h
  obtain ⟨y, st1, h1, h⟩ := h
  replace h := bnd_some h
  obtain ⟨c, st2, h2, h⟩ := h
  intro Q E hQ
  refine Subscript_ (ha m C.down I O h1 _ _ fun u1 ρ1 s1 e1 O1 p1 m1 => hb m C.down I O1 h2 _ _ fun u2 ρ2 s2 e2 O2 p2 m2 => ?_)
  exact sub_sound O2 h (p1.mono e2) p2 _ _ fun u3 ρ3 s3 e3 O3 p3 m3 => hQ _ _ _ ((e1.trans e2).trans e3) O3 p3 ((m1.trans m2).trans m3)

theorem SEs.nil : SEs T [] [] := ⟨fun _ _ => rfl, .inl rfl, fun pos n _ S ρ st st' s vs _ O h => by
  (first | exact nope h | refine rt_elim h ?_ | cases h)
  exact fun Q E hQ => wpAny_items_nil (hQ _ _ _ (Ext.refl _) O trivial Same.refl)⟩
theorem SEs.cons {c : CE} {cs : List CE} {e : Expr} {es : List Expr} (ha : SE T c e) (hb : SEs T cs es) (he : ∀ env, starEach (e :: es) env = (false, eval e env) :: starEach es env := by intro env; rfl) : SEs T (c :: cs) (e :: es) := by
  refine ⟨fun env pos => ?_, .inr fun env pos => ?_, fun pos n C S ρ st st' s vs I O h => ?_⟩
  · rw [he env]
    show (false || (backTo pos (starEach es env)).any (·.1)) = false
    rw [hb.plain env pos]; rfl
  · rw [he env]; exact ⟨_, _, rfl⟩
  · unfold evs at h
    replace h := bnd_some h
    obtain ⟨x, st1, h1, h⟩ := h
    replace h := bnd_some h
    obtain ⟨y, st2, h2, h⟩ := h
    (first | exact nope h | refine rt_elim h ?_ | cases h)
    intro Q E hQ
    refine wpAny_items_cons (ha n C I O h1 _ _ fun u1 ρ1 s1 e1 O1 p1 m1 => hb.does pos n C I O1 h2 _ _ fun u2 ρ2 s2 e2 O2 p2 m2 => ?_) (he _)
    exact hQ _ _ _ (e1.trans e2) O2 ⟨p1.mono e2, p2⟩ (m1.trans m2)
theorem SE.list {cs : List CE} {es : List Expr} {pos : Pos} (ha : SEs T cs es) : SE T (.list cs) (.List es pos) := fun n C S ρ st st' s v I O h => by
  replace h := run_e h
  obtain ⟨m, rfl, h⟩ := h
  unfold stepE at h
  replace h := bnd_some h
  obtain ⟨vs, st1, h1, h⟩ := h
  (first | (replace h := if_inv h; obtain ⟨q, h⟩ := h) | (replace h := if_inv2 h; obtain ⟨q, h⟩ := h) | (split at h; rotate_left; (focus cases h); rename_i q))
  · (replace h := alloc_some h; obtain ⟨rfl, rfl⟩ := h)
    intro Q E hQ
    refine wpAny_List (ha.does _ m C.down I O h1 _ _ fun us ρ1 s1 e1 O1 p1 m1 => ⟨?_, hQ _ _ _ (e1.trans ⟨_, rfl⟩) (O1.push rfl fun ρ' hE => ⟨_, _, 0, rfl, rfl, ?_⟩) (O1.newRef _) (m1.trans Same.rfl)⟩)
    · rw [sizeLine_is, ← p1.length]; have := lenOk_le q; omega
    · exact p1.mono hE
theorem SE.tuple {cs : List CE} {es : List Expr} {k : Nat} {pos : Pos} (ha : SEs T cs es) : SE T (.tuple cs) (.Tuple es k pos) := fun n C S ρ st st' s v I O h => by
  replace h := run_e h
  obtain ⟨m, rfl, h⟩ := h
  unfold stepE at h
  replace h := bnd_some h
  obtain ⟨vs, st1, h1, h⟩ := h
  (first | (replace h := if_inv h; obtain ⟨q, h⟩ := h) | (replace h := if_inv2 h; obtain ⟨q, h⟩ := h) | (split at h; rotate_left; (focus cases h); rename_i q))
  · (replace h := alloc_some h; obtain ⟨rfl, rfl⟩ := h)
    intro Q E hQ
    refine wpAny_Tuple (ha.does _ m C.down I O h1 _ _ fun us ρ1 s1 e1 O1 p1 m1 => ⟨?_, hQ _ _ _ (e1.trans ⟨_, rfl⟩) (O1.push rfl fun ρ' hE => ⟨_, _, 0, rfl, rfl, ?_⟩) (O1.newRef _) (m1.trans Same.rfl)⟩)
    · rw [sizeLine_is, ← p1.length]; have := lenOk_le q; omega
    · exact p1.mono hE
theorem STt.not {a : CE} {x : Expr} {pos : Pos} (ha : STt T a x) : STt T (.not a) (.UnaryOp .Not x pos) := fun n C S ρ st st' s v I O h => by
  replace h := run_t h
  obtain ⟨m, rfl, h⟩ := h
  unfold stepT at h
  replace h := bnd_some h
  obtain ⟨y, st1, h1, h⟩ := h
  (first | exact nope h | refine rt_elim h ?_ | cases h)
  intro Q E hQ
  exact wpAny_isTrue_Not (ha m C.down I O h1 _ _ fun u1 ρ1 s1 e1 O1 p1 m1 => hQ _ _ _ e1 O1 (by rw [p1]) m1)
theorem STt.cmp {op : CmpOp} {a b : CE} {l r : Expr} {pos : Pos} (ha : SE T a l) (hb : SE T b r) (hm : behindInMarks op r = false) : STt T (.cmp op a b) (.Compare l [op] [r] pos) := fun n C S ρ st st' s v I O h => by
  replace h := run_t h
  obtain ⟨m', rfl, h⟩ := h
  unfold stepT at h
  replace h := bnd_some h
  obtain ⟨z, st0, h0, h⟩ := h
  replace h0 := run_e h0
  obtain ⟨m, rfl, h0⟩ := h0
  unfold stepE at h0
  replace h0 := bnd_some h0
  obtain ⟨x, st1, h1, h0⟩ := h0
  replace h0 := bnd_some h0
  obtain ⟨y, st2, h2, h0⟩ := h0
  intro Q E hQ
  refine wpAny_isTrue_Compare1 (ha m C.down.down I O h1 _ _ fun u1 ρ1 s1 e1 O1 p1 m1 => hb m C.down.down I O1 h2 _ _ fun u2 ρ2 s2 e2 O2 p2 m2 => ?_) hm
  exact cmp_sound O2 h0 (p1.mono e2) p2 _ _ fun u3 ρ3 s3 e3 O3 p3 m3 => truth_sound O3 h p3 _ _ fun u4 ρ4 s4 e4 O4 p4 m4 => hQ _ _ _ (((e1.trans e2).trans e3).trans e4) O4 p4 (((m1.trans m2).trans m3).trans m4)
noncomputable def valT : CE → Bool
  | .not _ => false
  | .and _ _ => false
  | .or _ _ => false
  | .ite _ _ _ => false
  | _ => true
theorem STt.val {a : CE} {e : Expr} (ha : SE T a e) (hv : valT a = true) (he : ∀ env whole, isTrue e env whole = (do let v ← whole; standAt e.pos; holding [v] (truthy v)) := by intro _ _; rfl) : STt T a e := fun n C S ρ st st' s v I O h => by
  replace h := run_t h
  obtain ⟨m, rfl, h⟩ := h
  have h' : bnd ((run T.P m).e a) truth st = some (v, st') := by
    unfold stepT at h
    cases a <;> first | exact h | (cases hv)
  replace h' := bnd_some h'
  obtain ⟨z, st0, h0, h'⟩ := h'
  intro Q E hQ
  exact wpAny_isTrue_value (ha m C.down I O h0 _ _ fun u1 ρ1 s1 e1 O1 p1 m1 => truth_sound O1 h' p1 _ _ fun u4 ρ4 s4 e4 O4 p4 m4 => hQ _ _ _ (e1.trans e4) O4 p4 (m1.trans m4)) (he _ _)
theorem SB.nil : SB T [] [] := fun n _ S ρ st st' s f _ O h => by
  replace h := run_b h
  obtain ⟨m, rfl, h⟩ := h
  (first | exact nope h | refine rt_elim h ?_ | cases h)
  exact fun Q E hQ => wpAny_execs_nil (hQ _ _ _ (Ext.refl _) O rfl Same.refl)
theorem SB.cons {c : CS} {cs : List CS} {t : Stmt} {ts : List Stmt} (ha : SS T c t) (hb : SB T cs ts) : SB T (c :: cs) (t :: ts) := fun n C S ρ st st' s f I O h => by
  replace h := run_b h
  obtain ⟨m, rfl, h⟩ := h
  unfold stepB at h
  replace h := bnd_some h
  obtain ⟨g, st1, h1, h⟩ := h
  intro Q E hQ
  refine wpAny_execs_cons (ha m C.down I O h1 _ _ fun u1 ρ1 s1 e1 O1 p1 m1 => ?_)
  induction g with
  | next => cases p1; exact hb m C.down I O1 h _ _ fun u2 ρ2 s2 e2 O2 p2 m2 => hQ _ _ _ (e1.trans e2) O2 p2 (m1.trans m2)
  | brk => cases p1; cases h; exact hQ _ _ _ e1 O1 rfl m1
  | cont => cases p1; cases h; exact hQ _ _ _ e1 O1 rfl m1
  | ret v => obtain ⟨u, rfl, hu⟩ := p1; cases h; exact hQ _ _ _ e1 O1 ⟨u, rfl, hu⟩ m1
theorem SS.never {t : Stmt} : SS T .never t := fun n C S ρ st st' s f I O h => by
  replace h := run_s h
  obtain ⟨m, rfl, h⟩ := h
  (first | exact nope h | refine rt_elim h ?_ | cases h)
theorem SS.brk {pos : Pos} : SS T .brk (.Break pos) := fun n C S ρ st st' s f I O h => by
  replace h := run_s h
  obtain ⟨m, rfl, h⟩ := h
  (first | exact nope h | refine rt_elim h ?_ | cases h)
  exact fun Q E hQ => wpAny_Break (hQ _ _ _ (Ext.refl _) O rfl Same.refl)
theorem SS.cont {pos : Pos} : SS T .cont (.Continue pos) := fun n C S ρ st st' s f I O h => by
  replace h := run_s h
  obtain ⟨m, rfl, h⟩ := h
  (first | exact nope h | refine rt_elim h ?_ | cases h)
  exact fun Q E hQ => wpAny_Continue (hQ _ _ _ (Ext.refl _) O rfl Same.refl)
theorem SS.ret {a : CE} {e : Expr} {pos : Pos} (ha : SE T a e) : SS T (.ret a) (.Return (some e) pos) := fun n C S ρ st st' s f I O h => by
  replace h := run_s h
  obtain ⟨m, rfl, h⟩ := h
  unfold stepS at h
  replace h := bnd_some h
  obtain ⟨v, st1, h1, h⟩ := h
  (first | exact nope h | refine rt_elim h ?_ | cases h)
  exact fun Q E hQ => wpAny_Return_some (ha m C.down I O h1 _ _ fun u1 ρ1 s1 e1 O1 p1 m1 => hQ _ _ _ e1 O1 ⟨_, rfl, p1⟩ m1)
theorem SS.ite {t : CE} {a b : List CS} {test : Expr} {body orelse : List Stmt} {pos : Pos} (ht : STt T t test) (ha : SB T a body) (hb : SB T b orelse) : SS T (.ite t a b) (.If test body orelse pos) := fun n C S ρ st st' s f I O h => by
  replace h := run_s h
  obtain ⟨m, rfl, h⟩ := h
  unfold stepS at h
  replace h := bnd_some h
  obtain ⟨c, st1, h1, h⟩ := h
  intro Q E hQ
  refine wpAny_If (ht m C.down I O h1 _ _ fun c' ρ1 s1 e1 O1 p1 m1 => ?_)
  subst p1
  induction c' with
  | true => exact ha m C.down I O1 h _ _ fun u3 ρ3 s3 e3 O3 p3 m3 => hQ _ _ _ (e1.trans e3) O3 p3 (m1.trans m3)
  | false => exact hb m C.down I O1 h _ _ fun u3 ρ3 s3 e3 O3 p3 m3 => hQ _ _ _ (e1.trans e3) O3 p3 (m1.trans m3)
noncomputable def notComp : Expr → Bool
  | .ListComp .. => false
  | .SetComp .. => false
  | .DictComp .. => false
  | _ => true
theorem swaps_no {e : Expr} {t : Option Expr} {l : Nat} {env : Env} (h : notComp e = true) : swapsWith e t l env = pure false := by
  unfold swapsWith
  cases e <;> first | rfl | (cases h)
theorem SS.assign {i : Nat} {x : Str} {k : SK} {a : CE} {e : Expr} {pos pos' : Pos} (hk : T.ks[i]? = some (x, k)) (ha : SE T a e) (he : notComp e = true := by rfl) (ho : k = .loc ∨ k = .cell := by decide) : SS T (.assign (.var i) a) (.Assign [.Name x pos'] e pos) := fun n C S ρ st st' s f I O h => by
  replace h := run_s h
  obtain ⟨m, rfl, h⟩ := h
  unfold stepS at h
  replace h := bnd_some h
  obtain ⟨v, st1, h1, h⟩ := h
  replace h := bnd_some h
  obtain ⟨v2, st2, h2, h⟩ := h
  (first | exact nope h | refine rt_elim h ?_ | cases h)
  intro Q E hQ
  refine wpAny_Assign_Name (ha m C.down I O h1 _ _ fun c' ρ1 s1 e1 O1 p1 m1 => store_sound O1 (by rw [I.ks]; exact hk) ho h2 p1 _ _ fun _ ρ2 s2 e2 O2 _ m2 => ?_) (swaps_no he)
  exact hQ _ _ _ (e1.trans e2) O2 rfl (m1.trans m2)
theorem wpAny_drop {prog : Program} {w : World} {A : Around} {E : Value → Shared → Prop} {s : Shared} {f : Expr} {as : List Expr} {ks : List Keyword} {p pos : Pos} {v : Value} {Q : Flow → Shared → Prop} (h : Q .next s) : wpAny (model prog w) A (dropValue (.Call f as ks p) pos v) Q E s := by
  cases v with
  | ref a => exact wpAny_bind (wpAny_standAt (wpAny_bind (wpAny_runValue (codeAny_builtin entry_let_go (show wpAny _ _ (ret .none) _ _ s from wpAny_pure (wpAny_pure h))))))
  | _ => exact wpAny_pure h
theorem SS.expr {a : CE} {f : Expr} {as : List Expr} {ks : List Keyword} {p pos : Pos} (ha : SE T a (.Call f as ks p)) : SS T (.expr a) (.Expr (.Call f as ks p) pos) := fun n C S ρ st st' s fl I O h => by
  replace h := run_s h
  obtain ⟨m, rfl, h⟩ := h
  unfold stepS at h
  replace h := bnd_some h
  obtain ⟨v, st1, h1, h⟩ := h
  (first | exact nope h | refine rt_elim h ?_ | cases h)
  intro Q E hQ
  have hi : interactive S.env = false := by unfold interactive; rw [O.env.kind]; rfl
  rw [exec_Expr _ _ pos hi (swaps_no rfl)]
  exact wpAny_bind (wpAny_standAt (wpAny_bind (ha m C.down I O h1 _ _ fun u1 ρ1 s1 e1 O1 p1 m1 => wpAny_drop (hQ _ _ _ e1 O1 rfl m1))))
end
end Mine
end

section
open AutoSeq1 (wpAny_loadPart')
set_option genSizeOf false
set_option genInjectivity false
namespace Mine
section
variable {prog : Program} {w : World} {A : Around} {E : Value → Shared → Prop} {s : Shared}
theorem nextOf_tuple_item {it l : Addr} {i : Nat} {items : Array Value} {x : Value} {Q : Value → Shared → Prop} (hit : s.heap.IsTupleIter it l i)
    (hl : s.heap.IsTuple l items) (hx : items[i]? = some x)
    (hQ : ∀ h', h'.IsTupleIter it l (i + 1) → Heap.SameBut it s.heap h' → Q x { s with heap := h' }) :
    wpAny (model prog w) A (Builtin.SmallTypes.nextOf (.ref it)) Q E s := by
  obtain ⟨o, ho, hc, hd⟩ := id hit
  obtain ⟨ol, hol, _, nl, hdl⟩ := hl
  unfold Builtin.SmallTypes.nextOf
  refine wpAny_bind (wpAny_callSpecial?_slot (name := Str.ofString "__next__") hit.typeIs F.slot_tuple_iterator_next
    (wpAny_call_entry F.slot_tuple_iterator_next hit.typeIs F.entry_tuple_iterator_next ?_ (F.args_tuple_iterator_next_1 _)))
  show wpAny _ _ (field (.ref it) 0 >>= _) _ _ s
  refine wpAny_bind (wpAny_field ho hd (x := .ref l) rfl ?_)
  show wpAny _ _ (if (Value.ref l == Value.none) = true then _ else _) _ _ s
  rw [if_neg (show ¬ ((Value.ref l == Value.none) = true) from Bool.false_ne_true)]
  show wpAny _ _ (field (.ref it) 1 >>= _) _ _ s
  refine wpAny_bind (wpAny_field ho hd (x := .int i 0) rfl ?_)
  show wpAny _ _ (seqItems? (.ref l) >>= _) _ _ s
  refine wpAny_bind (wpAny_seqItems hol hdl ?_)
  simp only [Int.toNat_natCast, hx]
  refine wpAny_bind (wpAny_setField ho hd (by simp) (wpAny_pure ⟨x, rfl, wpAny_pure (hQ _ ?_ (Heap.SameBut.update ..))⟩))
  exact ⟨_, Heap.get?_update_self _ ho (Obj.isFreed_of_fields (Obj.data_mapFields hd _)), (Obj.cls_mapFields ..).trans hc, by
    rw [Obj.data_mapFields hd]; simp [rawInt]⟩
theorem nextOf_tuple_end {it l : Addr} {i : Nat} {items : Array Value} {Q : Value → Shared → Prop} (hh : A.handled = none)
    (hit : s.heap.IsTupleIter it l i) (hl : s.heap.IsTuple l items) (hx : items[i]? = none)
    (hE : ∀ h' e, Heap.ExtBut it s.heap h' → (∃ o, h'.get? e = some o ∧ o.cls = .type "StopIteration") → E (.ref e) { s with heap := h' }) :
    wpAny (model prog w) A (Builtin.SmallTypes.nextOf (.ref it)) Q E s := by
  obtain ⟨o, ho, hc, hd⟩ := id hit
  obtain ⟨ol, hol, _, nl, hdl⟩ := hl
  unfold Builtin.SmallTypes.nextOf
  refine wpAny_bind (wpAny_callSpecial?_slot (name := Str.ofString "__next__") hit.typeIs F.slot_tuple_iterator_next
    (wpAny_call_entry F.slot_tuple_iterator_next hit.typeIs F.entry_tuple_iterator_next ?_ (F.args_tuple_iterator_next_1 _)))
  show wpAny _ _ (field (.ref it) 0 >>= _) _ _ s
  refine wpAny_bind (wpAny_field ho hd (x := .ref l) rfl ?_)
  show wpAny _ _ (if (Value.ref l == Value.none) = true then _ else _) _ _ s
  rw [if_neg (show ¬ ((Value.ref l == Value.none) = true) from Bool.false_ne_true)]
  show wpAny _ _ (field (.ref it) 1 >>= _) _ _ s
  refine wpAny_bind (wpAny_field ho hd (x := .int i 0) rfl ?_)
  show wpAny _ _ (seqItems? (.ref l) >>= _) _ _ s
  refine wpAny_bind (wpAny_seqItems hol hdl ?_)
  simp only [Int.toNat_natCast, hx]
  refine wpAny_bind (wpAny_rule (wpAny_bind (wpAny_setField ho hd (by simp) ?_)))
  show wpAny _ _ (newExc (.type "StopIteration") [] >>= _) _ _ _
  refine wpAny_bind ?_
  simp only [newExc, newTuple]
  refine wpAny_bind (wpAny_newObj_type ?_ (by size_fits))
  refine wpAny_bind (m := firstArgMember _ _) (wpAny_of_eq (a := Value.none) (by first | rfl | (simp only [firstArgMember]; rfl)) ?_)
  refine wpAny_newObj_type ?_ (by size_fits)
  simp only [raiseNew]
  refine wpAny_bind (wpAny_handled ?_)
  first | rw [show A.in1.handled = none from hh] | rw [hh]
  refine wpAny_bind (wpAny_pure (wpAny_throw ?_))
  exact hE _ _ (((Heap.SameBut.update ..).extBut.push _).push _) ⟨_, Heap.get?_push_size _ rfl, rfl⟩
end
theorem isTuple_at {h h' : Heap} {a items} (x : h.IsTuple a items) (e : ∀ o, h.get? a = some o → h'.get? a = some o) : h'.IsTuple a items := let ⟨o, ho, r⟩ := x; ⟨o, e _ ho, r⟩
theorem isTupleIter_at {h h' : Heap} {a l i} (x : h.IsTupleIter a l i) (e : ∀ o, h.get? a = some o → h'.get? a = some o) : h'.IsTupleIter a l i := let ⟨o, ho, r⟩ := x; ⟨o, e _ ho, r⟩
theorem draws_tuple {prog : Program} {w : World} {A : Around} (hh : A.handled = none) (it l : Addr) (hne : l ≠ it) (items : Array Value) :
    Draws prog w A it [it, l] items.size (fun i v => items[i]? = some v) (fun i h => h.IsTupleIter it l i ∧ h.IsTuple l items) where
  live := fun _ _ st => let ⟨o, ho, _⟩ := st.1; ⟨o, ho⟩
  frame := fun _ _ _ st hk => ⟨isTupleIter_at st.1 fun o e => hk it (by simp) o e, isTuple_at st.2 fun o e => hk l (by simp) o e⟩
  item := fun i s Q E hi st hQ => by
    refine nextOf_tuple_item st.1 st.2 (x := items[i]) (by simp [hi]) fun h' hit' hs' => ?_
    exact hQ _ h' s.toks (by simp [hi]) ⟨hit', st.2.extBut hs'.extBut hne⟩ hs'
  done := fun s Q E st hE => nextOf_tuple_end hh st.1 st.2 (by simp) hE

theorem meets_enum_tuple (l : Addr) (items : Array Value) (n : Nat) (dct : Option Addr) (sl : Array (Option Value)) :
    Meets (Builtin.«enumerate.__new__» ⟨[.type "enumerate", .ref l], []⟩) (fun _ R s => s.heap.get? l = some { cls := .type "tuple", dict := dct, data := .seq items n, slots := sl } ∧
      R (.ok (.ret (.ref (s.heap.push { cls := .type "tuple_iterator", data := .fields #[.ref l, .int 0 0] }).objs.size)))
        { s with heap := (s.heap.push { cls := .type "tuple_iterator", data := .fields #[.ref l, .int 0 0] }).push { cls := .type "enumerate", data := .fields #[.none, .bool false, .ref s.heap.objs.size, rawInt 0, .none, .none] } }) :=
  .of_wp fun prog w A R s h => by
    obtain ⟨hp, g, d, tk, os⟩ := s; obtain ⟨hl, h⟩ := h
    have hsub := sub_enumerate
    have hL : Heap.IsTuple (Shared.heap ⟨hp, g, d, tk, os⟩) l items := ⟨_, hl, rfl, n, rfl⟩
    wp_walk using wpAny_loadPart' hl
    refine wpAny_stack_any fun st => wpAny_pure ?_
    generalize Builtin.SmallTypes.calledThroughType.match_1 _ _ _ _ = b
    · cases b
      · wp_walk using wpAny_loadPart' hl, wpAny_pyIter_tuple hL
        exact ⟨_, rfl, h⟩
      · wp_walk using wpAny_loadPart' hl, wpAny_pyIter_tuple hL
        exact ⟨_, rfl, h⟩
theorem call_enum_tuple {prog : Program} {w : World} {A : Around} {E : Value → Shared → Prop} {s : Shared} {l : Addr} {items : Array Value} {Q : Value → Shared → Prop} (hL : s.heap.IsTuple l items)
    (h : ∀ h', IsEnum h' (s.heap.objs.size + 1) s.heap.objs.size 0 .none → h'.IsTupleIter s.heap.objs.size l 0 → h'.objs.size = s.heap.objs.size + 2 →
      (∀ b o, s.heap.get? b = some o → h'.get? b = some o) → Q (.ref (s.heap.objs.size + 1)) { s with heap := h' }) :
    wpAny (model prog w) A (call (.type "enumerate") [.ref l]) Q E s := by
  obtain ⟨⟨c, dct, dt, sl⟩, hl, hc, n, hd⟩ := hL
  replace hc : c = .type "tuple" := hc
  replace hd : dt = .seq items n := hd
  subst hc hd
  refine callType_new F.called_enumerate (by decide) (F.typeCall_enumerate_1 _) (F.newCall_enumerate_1 _) (fun obj => F.args_object_init_2 obj _) F.entry_enumerate_new
    (meets_enum_tuple l items n dct sl) ⟨hl, ?_⟩
  have hz : (s.heap.push { cls := .type "tuple_iterator", data := .fields #[.ref l, .int 0 0] }).objs.size = s.heap.objs.size + 1 := Heap.size_push ..
  show _ ∧ _
  rw [hz]
  have he : IsEnum ((s.heap.push { cls := .type "tuple_iterator", data := .fields #[.ref l, .int 0 0] }).push
      { cls := .type "enumerate", data := .fields #[.none, .bool false, .ref s.heap.objs.size, rawInt 0, .none, .none] }) (s.heap.objs.size + 1) s.heap.objs.size 0 .none := by
    have := Heap.get?_push_size (s.heap.push { cls := .type "tuple_iterator", data := .fields #[.ref l, .int 0 0] })
      (o := { cls := .type "enumerate", data := .fields #[.none, .bool false, .ref s.heap.objs.size, rawInt 0, .none, .none] }) rfl
    rw [hz] at this; exact this
  refine ⟨⟨_, he, rfl⟩, h _ he ⟨_, Heap.get?_push_of_some _ (Heap.get?_push_size _ rfl), rfl, rfl⟩ (by rw [Heap.size_push, hz]) fun b o x => Heap.get?_push_of_some _ (Heap.get?_push_of_some _ x)⟩
end Mine
end

section
set_option genSizeOf false
set_option genInjectivity false
namespace Mine

noncomputable def Sit.plus (S : Sit) (L : List (Addr × Obj)) : Sit := { S with B := fun a o => S.B a o ∨ (a, o) ∈ L }
section
variable {W : Wd} {S : Sit} {ρ ρ0 : Rho} {st st0 st' : St} {s : Shared} {h h0 h' : Heap} {L L' : List (Addr × Obj)}
theorem Ok.plus (O : Ok W S ρ st h) (hL : ∀ p ∈ L, h.get? p.1 = some p.2 ∧ p.1 ∉ own S.env S.cs ρ st.lo ∧ p.1 ∉ S.fr.map (·.1)) : Ok W (S.plus L) ρ st h := by
  obtain ⟨o, es, ep, b1, b2, b3, b4⟩ := O.blt
  refine ⟨fun a o e => .inl (O.base a o e), ⟨o, es, ep, .inl b1, b2, b3, b4⟩, O.env, O.top, O.ctx, O.lo, O.dep, ?_, fun p hp => ⟨(O.frs p hp).1, (O.frs p hp).2.1, fun o q => ?_⟩, O.trk⟩
  rotate_left
  · rcases q with q | q
    · exact (O.frs p hp).2.2 o q
    · exact (hL _ q).2.2 (List.mem_map.mpr ⟨p, hp, rfl⟩)
  refine ⟨?_, O.rel.len, O.rel.lo, ?_, O.rel.nd, ?_, O.rel.ns, O.rel.cel, ?_, O.rel.cin, ?_, O.rel.big⟩
  · rintro b o (e | e)
    · exact O.rel.base b o e
    · exact (hL _ e).1
  · intro k co as e1 e2
    obtain ⟨os, a1, a2⟩ := O.rel.obj k co as e1 e2
    refine ⟨os, ?_, a2⟩
    split
    · rename_i q; rw [if_pos q] at a1; exact a1.mono fun a _ o e => .inl e
    · rename_i q; rw [if_neg q] at a1; exact a1
  · rintro a ha o (e | e)
    · exact O.rel.off a ha o e
    · exact (hL _ e).2.1 ha
  · intro i x e
    obtain ⟨c, o, u, a1, a2, a3, a4⟩ := O.rel.fre i x e
    exact ⟨c, o, u, a1, .inl a2, a3, a4⟩
  · obtain ⟨o, e⟩ := O.rel.glob; exact ⟨o, .inl e⟩
theorem Ok.minus (O : Ok W (S.plus L) ρ st h) (O0 : Ok W S ρ0 st0 h0) (hE : Ext ρ0 ρ) (hL : ∀ p ∈ L, ∀ o, ¬ S.B p.1 o) : Ok W S ρ st h := by
  refine ⟨O0.base, O0.blt, O.env, O.top, O.ctx, O.lo, O.dep, ?_, fun p hp => ⟨(O.frs p hp).1, (O.frs p hp).2.1, fun o q => (O.frs p hp).2.2 o (.inl q)⟩, O.trk⟩
  refine ⟨fun b o e => O.rel.base b o (.inl e), O.rel.len, O.rel.lo, ?_, O.rel.nd, fun a ha o e => O.rel.off a ha o (.inl e), O.rel.ns, O.rel.cel, ?_, O.rel.cin, O0.rel.glob, O.rel.big⟩
  · intro k co as e1 e2
    obtain ⟨os, a1, a2⟩ := O.rel.obj k co as e1 e2
    refine ⟨os, ?_, a2⟩
    split
    · rename_i q
      rw [if_pos q] at a1
      have q0 : k < st0.lo := by
        have h1 : st.lo = S.lo := O.lo
        rw [O0.lo, ← h1]; exact q
      have hk : k < st0.heap.length := Nat.lt_of_lt_of_le q0 O0.rel.lo
      have hk2 : k < ρ0.length := by rw [O0.rel.len]; exact hk
      have e3 := hE.get (List.getElem?_eq_getElem hk2)
      rw [e2] at e3
      (first | exact nope e3 | cases e3)
      obtain ⟨os0, c1, c2⟩ := O0.rel.obj k _ _ (List.getElem?_eq_getElem hk) (List.getElem?_eq_getElem hk2)
      rw [if_pos q0] at c1
      refine a1.mono fun a ha o e => ?_
      rcases e with e | e
      · exact e
      · obtain ⟨o', ho'⟩ := c1.mem a ha
        exact absurd ho' (hL _ e o')
    · rename_i q; rw [if_neg q] at a1; exact a1
  · intro i x e
    obtain ⟨c, o, u, a1, a2, a3, a4⟩ := O.rel.fre i x e
    refine ⟨c, o, u, a1, ?_, a3, a4⟩
    rcases a2 with a2 | a2
    · exact a2
    · obtain ⟨c', o', u', b1, b2, _, _⟩ := O0.rel.fre i x e
      have a1 : S.env.cells.lookup x = some c := a1
      rw [a1] at b1; (first | exact nope b1 | cases b1)
      exact absurd b2 (hL _ a2 _)
theorem Ok.off (O : Ok W S ρ st h) {X : List Addr} (hX : ∀ a ∈ X, a ∉ own S.env S.cs ρ st.lo ∧ (∀ o, ¬ S.B a o) ∧ a ∉ S.fr.map (·.1)) (kp : ∀ b o, b ∉ X → h.get? b = some o → h'.get? b = some o) : Ok W S ρ st h' := by
  have kown : ∀ a ∈ own S.env S.cs ρ st.lo, ∀ o, h.get? a = some o → h'.get? a = some o := fun a ha o e => kp a o (fun q => (hX a q).1 ha) e
  refine ⟨O.base, O.blt, O.env, O.top, O.ctx, O.lo, O.dep, ?_, fun p hp => (O.frs p hp).to (fun o e => kp _ o (fun q => (hX _ q).2.2 (List.mem_map.mpr ⟨p, hp, rfl⟩)) e) (O.frs p hp).2.1, O.trk⟩
  refine ⟨fun b o e => kp b o (fun q => (hX b q).2.1 o e) (O.rel.base b o e), O.rel.len, O.rel.lo, ?_, O.rel.nd, O.rel.off, ?_, ?_, O.rel.fre, ?_, O.rel.glob, O.rel.big⟩
  · intro k co as e1 e2
    obtain ⟨os, a1, a2⟩ := O.rel.obj k co as e1 e2
    refine ⟨os, ?_, a2⟩
    split
    · rename_i q; rw [if_pos q] at a1; exact a1
    · rename_i q; rw [if_neg q] at a1
      exact a1.mono fun a ha o e => kown a (List.mem_append.mpr (.inr (mem_own_obj e2 (Nat.le_of_not_lt q) ha))) o e
  · obtain ⟨m, ⟨o, es, ep, ho, r'⟩, r⟩ := O.rel.ns
    exact ⟨m, ⟨o, es, ep, kown _ (List.mem_append.mpr (.inl (.head _))) _ ho, r'⟩, r⟩
  · intro i x e
    obtain ⟨c, u, a1, a2, ⟨o, ho, hd⟩, a4⟩ := O.rel.cel i x e
    exact ⟨c, u, a1, a2, ⟨o, kown _ (List.mem_append.mpr (.inl (.tail _ a2))) _ ho, hd⟩, a4⟩
  · intro c hc
    obtain ⟨u, o, ho, hd⟩ := O.rel.cin c hc
    exact ⟨u, o, kown _ (List.mem_append.mpr (.inl (.tail _ hc))) _ ho, hd⟩

theorem get_big {h : Heap} {a : Addr} (q : h.objs.size ≤ a) : h.get? a = none := by
  cases e : h.get? a with
  | none => rfl
  | some o => exact absurd (Heap.lt_size e) (Nat.not_lt.mpr q)
structure Hid (W : Wd) (S : Sit) (ρ0 : Rho) (L : List (Addr × Obj)) (ρ : Rho) (st : St) (h : Heap) : Prop where
  start : ∃ st0 h0, Ok W S ρ0 st0 h0
  ext : Ext ρ0 ρ
  new : ∀ p ∈ L, ∀ o, ¬ S.B p.1 o
  ok : Ok W (S.plus L) ρ st h
theorem Hid.bare (H : Hid W S ρ0 L ρ st h) : Ok W S ρ st h := let ⟨_, _, O⟩ := H.start; H.ok.minus O H.ext H.new
theorem Hid.at (H : Hid W S ρ0 L ρ st h) {a : Addr} {o : Obj} (e : (a, o) ∈ L) : h.get? a = some o := H.ok.rel.base _ _ (.inr e)
theorem Hid.offs (H : Hid W S ρ0 L ρ st h) : ∀ a ∈ L.map (·.1), a ∉ own S.env S.cs ρ st.lo ∧ (∀ o, ¬ S.B a o) ∧ a ∉ S.fr.map (·.1) := fun a ha => by
  obtain ⟨⟨a', o⟩, hp, rfl⟩ := List.mem_map.mp ha
  exact ⟨fun q => H.ok.rel.off _ q o (.inr hp), fun o' q => H.new _ hp o' q, H.ok.frB (a := a') (o := o) (.inr hp)⟩
theorem Hid.turn (H : Hid W S ρ0 L ρ st h) (kp : ∀ b o, b ∉ L.map (·.1) → h.get? b = some o → h'.get? b = some o)
    (hn : ∀ p ∈ L', h'.get? p.1 = some p.2 ∧ (p.1 ∈ L.map (·.1) ∨ h.objs.size ≤ p.1)) : Hid W S ρ0 L' ρ st h' := by
  refine ⟨H.start, H.ext, fun p hp => ?_, (H.bare.off H.offs kp).plus fun p hp => ⟨(hn p hp).1, ?_, ?_⟩⟩
  · rcases (hn p hp).2 with q | q
    · exact (H.offs _ q).2.1
    · intro o e
      have := H.bare.rel.base _ _ e
      rw [get_big q] at this; (first | exact nope this | cases this)
  · rcases (hn p hp).2 with q | q
    · exact (H.offs _ q).1
    · exact fun m => absurd (H.bare.rel.lt m) (Nat.not_lt.mpr q)
  · rcases (hn p hp).2 with q | q
    · exact (H.offs _ q).2.2
    · exact H.bare.frFresh q
theorem Hid.done (H : Hid W S ρ0 L ρ st h) (kp : ∀ b o, b ∉ L.map (·.1) → h.get? b = some o → h'.get? b = some o) : Ok W S ρ st h' := H.bare.off H.offs kp
theorem Ok.hide (O : Ok W S ρ st h) (kp : ∀ b o, h.get? b = some o → h'.get? b = some o) (hn : ∀ p ∈ L, h'.get? p.1 = some p.2 ∧ h.objs.size ≤ p.1) : Hid W S ρ L ρ st h' :=
  ⟨⟨st, h, O⟩, Ext.refl _, fun p hp o e => (by
    have := O.rel.base _ _ e
    rw [get_big (hn p hp).2] at this
    cases this), (O.keeps kp).plus fun p hp => ⟨(hn p hp).1, fun m => absurd (O.rel.lt m) (Nat.not_lt.mpr (hn p hp).2), O.frFresh (hn p hp).2⟩⟩
theorem Hid.after {ρ' : Rho} (H : Hid W S ρ0 L ρ st h) (hE : Ext ρ ρ') (O : Ok W (S.plus L) ρ' st' h') : Hid W S ρ0 L ρ' st' h' := ⟨H.start, H.ext.trans hE, H.new, O⟩
end
inductive It1 (ρ : Rho) (L : List (Addr × Obj)) (v : Value) (c : String) (d : Addr → Data) (k : Nat) : Prop
  | intro (I : Addr) (o : Obj) (a : Addr) (h1 : v = .ref I) (h2 : L = [(I, o)]) (h3 : ρ[k]? = some [a]) (h4 : o.cls = .type c) (h5 : o.data = d a)
inductive ItRng (L : List (Addr × Obj)) (v : Value) (xs : List Int) : Prop
  | intro (I : Addr) (x c : Int) (h1 : v = .ref I) (h2 : L = [(I, { cls := .type "range_iterator", dict := none, data := .fields #[rawInt x, rawInt xs.length, rawInt c], slots := #[] })]) (h3 : ∀ (i : Nat), i < xs.length → xs[i]? = some (x + c * (i : Int)))
inductive ItEnm (ρ : Rho) (L : List (Addr × Obj)) (v : Value) (t : Bool) (k i : Nat) : Prop
  | intro (I it : Addr) (o : Obj) (a : Addr) (old : Value) (h1 : v = .ref I) (h2 : I ≠ it) (h3 : L = [(I, { cls := .type "enumerate", dict := none, data := .fields #[.none, .bool false, .ref it, rawInt i, .none, old], slots := #[] }), (it, o)]) (h4 : ρ[k]? = some [a]) (h5 : o.cls = .type (if t then "tuple_iterator" else "list_iterator")) (h6 : o.data = .fields #[.ref a, .int i 0])
inductive ItZip (ρ : Rho) (L : List (Addr × Obj)) (v : Value) (k l i : Nat) : Prop
  | intro (I TI TO i1 i2 : Addr) (o1 o2 : Obj) (a b : Addr) (x y : Value) (h0 : v = .ref I) (d1 : TI ≠ I) (d2 : TO ≠ I) (d3 : i1 ≠ I) (d4 : i2 ≠ I) (d5 : TI ≠ TO) (d6 : TI ≠ i1) (d7 : TI ≠ i2) (d8 : TO ≠ i1) (d9 : TO ≠ i2) (d10 : i1 ≠ i2)
      (h2 : L = [(I, { cls := .type "zip", dict := none, data := .fields #[.none, .bool false, .bool false, .ref TI, .ref TO], slots := #[] }), (TI, { cls := .type "tuple", data := .seq #[.ref i1, .ref i2] }), (TO, { cls := .type "tuple", data := .seq #[x, y] }), (i1, o1), (i2, o2)])
      (h3 : ρ[k]? = some [a]) (h4 : ρ[l]? = some [b]) (h5 : o1.cls = .type "list_iterator") (h6 : o1.data = .fields #[.ref a, .int i 0]) (h7 : o2.cls = .type "list_iterator") (h8 : o2.data = .fields #[.ref b, .int i 0])
noncomputable def ItRel (_W : Wd) (ρ : Rho) (L : List (Addr × Obj)) (v : Value) : It → Prop
  | .seq t k i => It1 ρ L v (if t then "tuple_iterator" else "list_iterator") (fun a => .fields #[.ref a, .int i 0]) k
  | .rng xs => ItRng L v xs
  | .enm t k i => ItEnm ρ L v t k i
  | .zp k l i => ItZip ρ L v k l i
  | .keys k ep n i => It1 ρ L v "dict_keyiterator" (fun a => .fields #[.ref a, .int i 0, .int n 0, .int ep 0]) k
  | .vals k ep n i => It1 ρ L v "dict_valueiterator" (fun a => .fields #[.ref a, .int i 0, .int n 0, .int ep 0]) k
theorem ItRel.mono {W : Wd} {ρ ρ' : Rho} {L : List (Addr × Obj)} {v : Value} (e : Ext ρ ρ') {it : It} (h : ItRel W ρ L v it) : ItRel W ρ' L v it := by
  induction it with
  | rng _ => exact h
  | enm _ _ _ => exact let ⟨I, it, o, a, old, h1, h2, h3, h4, h5, h6⟩ := h; ⟨I, it, o, a, old, h1, h2, h3, e.get h4, h5, h6⟩
  | zp _ _ _ => exact let ⟨I, TI, TO, i1, i2, o1, o2, a, b, x, y, h1, d1, d2, d3, d4, d5, d6, d7, d8, d9, d10, h2, h3, h4, h5, h6, h7, h8⟩ := h; ⟨I, TI, TO, i1, i2, o1, o2, a, b, x, y, h1, d1, d2, d3, d4, d5, d6, d7, d8, d9, d10, h2, e.get h3, e.get h4, h5, h6, h7, h8⟩
  | _ => exact let ⟨I, o, a, h1, h2, h3, h4, h5⟩ := h; ⟨I, o, a, h1, h2, e.get h3, h4, h5⟩

inductive Tup2 (ρ : Rho) (h : Heap) (v w : CV) (u : Value) : Prop
  | intro (T : Addr) (x y : Value) (h1 : u = .ref T) (h2 : h.get? T = some { cls := .type "tuple", data := .seq #[x, y] }) (h3 : VRel ρ v x) (h4 : VRel ρ w y)
noncomputable def ItemRel (ρ : Rho) (h : Heap) : Item → Value → Prop
  | .one v, u => VRel ρ v u
  | .two v w, u => Tup2 ρ h v w u

section
variable {W : Wd} {S : Sit} {ρ ρ0 : Rho} {st st0 st' : St} {s : Shared} {h h0 h' : Heap} {L L' : List (Addr × Obj)}
theorem seqOf_some {t : Bool} {k : Nat} {xs : List CV} (h : st.heap[k]?.bind (seqOf t) = some xs) : st.heap[k]? = some (if t then .tuple xs else .list xs) := by
  cases q : st.heap[k]? with
  | none => rw [q] at h; (first | exact nope h | cases h)
  | some o =>
    rw [q] at h
    simp only [Option.bind_some] at h
    induction t with
    | false =>
      cases o <;> simp [seqOf] at h ⊢
      exact h
    | true =>
      cases o <;> simp [seqOf] at h ⊢
      exact h
inductive Ok_seqR (h : Heap) (xs : List CV) (t : Bool) (a : Addr) : Prop
  | intro vs n (f1 : h.get? a = some { cls := .type (if t then "tuple" else "list"), data := .seq vs n }) (f2 : VRels ρ xs vs.toList)
theorem Ok.seq {h : Heap} (O : Ok W S ρ st h) {k : Nat} {xs : List CV} {t : Bool} {a : Addr} (e : st.heap[k]? = some (if t then .tuple xs else .list xs)) (hk : ρ[k]? = some [a]) :
Ok_seqR (ρ := ρ) h xs t a := by
  induction t with
  | false =>
    obtain ⟨a', vs, n, e1, e2, e3, e4⟩ := O.list e ⟨a, [], hk, rfl⟩
    (first | exact nope e1 | cases e1)
    exact ⟨vs, n, e3, e4⟩
  | true =>
    obtain ⟨a', vs, n, e1, e2, e3, e4⟩ := O.tuple e ⟨a, [], hk, rfl⟩
    (first | exact nope e1 | cases e1)
    exact ⟨vs, n, e3, e4⟩
theorem none_of_len {xs : List CV} {vs : Array Value} {i : Nat} (h : VRels ρ xs vs.toList) (e : xs[i]? = none) : vs[i]? = none := by
  have := h.length
  rw [List.getElem?_eq_none_iff] at e
  simp only [Array.length_toList] at this
  exact Array.getElem?_eq_none (by omega)
inductive some_of_getR (vs : Array Value) (i : Nat) (x : CV) : Prop
  | intro v (f1 : vs[i]? = some v) (f2 : VRel ρ x v)
theorem some_of_get {xs : List CV} {vs : Array Value} {i : Nat} {x : CV} (h : VRels ρ xs vs.toList) (e : xs[i]? = some x) : some_of_getR (ρ := ρ) vs i x := by
  obtain ⟨v, e1, e2⟩ := h.get e
  exact ⟨v, by simpa using e1, e2⟩
theorem KVRel.get {K : Type} : ∀ {ρ : Rho} {es : List (K × CV)} {kvs : List (K × Value)}, KVRel ρ es kvs → ∀ {i : Nat} {e : K × CV}, es[i]? = some e → ∃ w, kvs[i]? = some w ∧ e.1 = w.1 ∧ VRel ρ e.2 w.2
  | _, _ :: _, _ :: _, ⟨h1, h2, _⟩, 0, _, e => by cases e; exact ⟨_, rfl, h1, h2⟩
  | _, _ :: _, _ :: _, ⟨_, _, r⟩, i + 1, _, e => r.get (by simpa using e)
  | _, [], _, _, _, _, e => by simp at e
  | _, _ :: _, [], h, _, _, _ => h.elim
theorem strKey_val {prog : Program} {w : World} {x : Str} {u : Value} (h : (strKind prog w).is x u = true) : VRel ρ (.str x) u := Value.isStrOf_shape h
theorem intKey_val {prog : Program} {w : World} {x : Int} {u : Value} (h : (intKind prog w).is x u = true) : VRel ρ (.int x) u := Value.isInt_shape h
theorem Hid.ne (H : Hid W S ρ0 L ρ st h) {k : Nat} {co : CO} {b : Addr} (hb : ρ[k]? = some [b]) (hk : st.heap[k]? = some co) : ∀ x ∈ L.map (·.1), b ≠ x := by
  intro a e0 eq
  rw [← eq] at e0
  obtain ⟨⟨a', o⟩, e, eq'⟩ := List.mem_map.mp e0
  dsimp only at eq'
  subst eq'
  obtain ⟨os, h1, _⟩ := H.bare.rel.obj k co _ hk hb
  by_cases q : k < st.lo
  · rw [if_pos q] at h1
    obtain ⟨o', ho'⟩ := h1.mem _ (.head _)
    exact H.new _ e o' ho'
  · exact (H.offs _ e0).1 (List.mem_append.mpr (.inr (mem_own_obj hb (Nat.le_of_not_lt q) (.head _))))
theorem not_mem1 {a b : Addr} {o : Obj} (h : b ∉ [(a, o)].map (·.1)) : b ≠ a := fun e => h (by simp [e])

theorem draws_end {prog : Program} {w : World} {A : Around} {it : Addr} {fp : List Addr} {n : Nat} {St : Heap → Prop} (hl : ∀ h, St h → ∃ o, h.get? it = some o)
    (hf : ∀ h h', St h → (∀ b ∈ fp, ∀ o, h.get? b = some o → h'.get? b = some o) → St h')
    (hd : ∀ (s : Shared) (Q : Value → Shared → Prop) (E : Value → Shared → Prop), St s.heap →
      (∀ h' e, Heap.ExtBut it s.heap h' → (∃ o, h'.get? e = some o ∧ o.cls = .type "StopIteration") → E (.ref e) { s with heap := h' }) → wpAny (model prog w) A (Builtin.SmallTypes.nextOf (.ref it)) Q E s) :
    Draws prog w A it fp n (fun _ _ => True) (fun i h => i = n ∧ St h) where
  live := fun _ _ st => hl _ st.2
  frame := fun _ _ _ st hk => ⟨st.1, hf _ _ st.2 hk⟩
  item := fun i s Q E hi st hQ => absurd st.1 (Nat.ne_of_lt hi)
  done := fun s Q E st hE => hd s Q E st.2 hE
theorem nextI_some {it : It} {st : St} {r : Option (Item × It)} (h : nextI it st = some r) : st.dep ≠ 0 ∧ nextI0 it st = some r := by
  unfold nextI at h
  split at h
  · (first | exact nope h | cases h)
  · rename_i q; exact ⟨q, h⟩
theorem seq_next {t : Bool} {k i : Nat} {r : Option (Item × It)} (h : nextI0 (.seq t k i) st = some r) : ∃ xs, st.heap[k]?.bind (seqOf t) = some xs ∧ r = xs[i]?.map fun v => (.one v, .seq t k (i + 1)) := by
  change (match st.heap[k]?.bind (seqOf t) with | some xs => (match xs[i]? with | some v => some (some (Item.one v, It.seq t k (i + 1))) | none => some none) | none => none) = some r at h
  revert h
  generalize st.heap[k]?.bind (seqOf t) = y
  intro h
  induction y with
  | none => exact nope h
  | some xs =>
    refine ⟨xs, rfl, Eq.symm (Option.some.inj (Eq.trans ?_ h))⟩
    show some (Option.map _ _) = match xs[i]? with | some v => _ | none => _
    induction xs[i]? with
    | none => rfl
    | some _ => rfl
theorem enm_next {t : Bool} {k i : Nat} {r : Option (Item × It)} (h : nextI0 (.enm t k i) st = some r) : ∃ xs, st.heap[k]?.bind (seqOf t) = some xs ∧ r = xs[i]?.map fun v => (.two (.int i) v, .enm t k (i + 1)) := by
  change (match st.heap[k]?.bind (seqOf t) with | some xs => (match xs[i]? with | some v => some (some (Item.two (.int i) v, It.enm t k (i + 1))) | none => some none) | none => none) = some r at h
  revert h
  generalize st.heap[k]?.bind (seqOf t) = y
  intro h
  induction y with
  | none => exact nope h
  | some xs =>
    refine ⟨xs, rfl, Eq.symm (Option.some.inj (Eq.trans ?_ h))⟩
    show some (Option.map _ _) = match xs[i]? with | some v => _ | none => _
    induction xs[i]? with
    | none => rfl
    | some _ => rfl
noncomputable def zpNext (a b : Option CV) (it : It) : Option (Item × It) := a.bind fun v => b.map fun w => (.two v w, it)
theorem zp_next {k l i : Nat} {r : Option (Item × It)} (h : nextI0 (.zp k l i) st = some r) : ∃ xs ys, st.heap[k]?.bind (seqOf false) = some xs ∧ st.heap[l]?.bind (seqOf false) = some ys ∧ r = zpNext xs[i]? ys[i]? (.zp k l (i + 1)) := by
  change (match st.heap[k]?.bind (seqOf false), st.heap[l]?.bind (seqOf false) with | some xs, some ys => (match xs[i]?, ys[i]? with | some v, some w => some (some (Item.two v w, It.zp k l (i + 1))) | _, _ => some none) | _, _ => none) = some r at h
  revert h
  generalize st.heap[k]?.bind (seqOf false) = y
  generalize st.heap[l]?.bind (seqOf false) = z
  intro h
  induction y with
  | none => exact nope h
  | some xs =>
    induction z with
    | none => exact nope h
    | some ys =>
      refine ⟨xs, ys, rfl, rfl, Eq.symm (Option.some.inj (Eq.trans ?_ h))⟩
      show some (zpNext _ _ _) = match xs[i]?, ys[i]? with | some v, some w => _ | _, _ => _
      induction xs[i]? with
      | none => rfl
      | some _ =>
        induction ys[i]? with
        | none => rfl
        | some _ => rfl
inductive DNext {K : Type} (o : Option CO) (mk : List (K × CV) → Nat → CO) (ep n i : Nat) (f : K × CV → Item × It) (r : Option (Item × It)) : Prop
  | intro (es : List (K × CV)) (h1 : o = some (mk es ep)) (h2 : ep ≠ unk) (h3 : es.length = n) (h4 : r = es[i]?.map f)
theorem keys_next {k ep n i : Nat} {r : Option (Item × It)} (h : nextI0 (.keys k ep n i) st = some r) : DNext st.heap[k]? .dictS ep n i (fun e => (.one (.str e.1), .keys k ep n (i + 1))) r ∨ DNext st.heap[k]? .dictI ep n i (fun e => (.one (.int e.1), .keys k ep n (i + 1))) r := by
  change (match st.heap[k]? with | some (.dictS es ep') => _ | some (.dictI es ep') => _ | _ => none) = some r at h
  revert h
  generalize st.heap[k]? = y
  intro h
  induction y with
  | none => exact nope h
  | some co =>
    induction co with
    | dictS es ep' =>
      replace h := if_inv2 h
      obtain ⟨⟨rfl, q, q'⟩, h⟩ := h
      refine .inl ⟨es, rfl, q, q', ?_⟩
      revert h
      generalize es[i]? = y
      intro h
      induction y with
      | none => exact (Option.some.inj h).symm
      | some _ => exact (Option.some.inj h).symm
    | dictI es ep' =>
      replace h := if_inv2 h
      obtain ⟨⟨rfl, q, q'⟩, h⟩ := h
      refine .inr ⟨es, rfl, q, q', ?_⟩
      revert h
      generalize es[i]? = y
      intro h
      induction y with
      | none => exact (Option.some.inj h).symm
      | some _ => exact (Option.some.inj h).symm
    | _ => exact nope h
theorem vals_next {k ep n i : Nat} {r : Option (Item × It)} (h : nextI0 (.vals k ep n i) st = some r) : DNext st.heap[k]? .dictS ep n i (fun e => (.one e.2, .vals k ep n (i + 1))) r := by
  change (match st.heap[k]? with | some (.dictS es ep') => _ | _ => none) = some r at h
  revert h
  generalize st.heap[k]? = y
  intro h
  induction y with
  | none => exact nope h
  | some co =>
    induction co with
    | dictS es ep' =>
      replace h := if_inv2 h
      obtain ⟨⟨rfl, q, q'⟩, h⟩ := h
      refine ⟨es, rfl, q, q', ?_⟩
      revert h
      generalize es[i]? = y
      intro h
      induction y with
      | none => exact (Option.some.inj h).symm
      | some _ => exact (Option.some.inj h).symm
    | _ => exact nope h
theorem map_none {α β : Type} {f : α → β} {o : Option α} (h : none = o.map f) : o = none := by
  induction o with
  | none => rfl
  | some _ => exact nope h
theorem map_some {α β : Type} {f : α → β} {o : Option α} {b : β} (h : some b = o.map f) : ∃ a, o = some a ∧ f a = b := by
  induction o with
  | none => exact nope h.symm
  | some a => exact ⟨a, rfl, (Option.some.inj h).symm⟩
theorem zpNext_none {a b : Option CV} {it : It} (h : none = zpNext a b it) : a = none ∨ b = none := by
  induction a with
  | none => exact .inl rfl
  | some _ =>
    induction b with
    | none => exact .inr rfl
    | some _ => exact nope h
theorem zpNext_some {a b : Option CV} {it : It} {r : Item × It} (h : some r = zpNext a b it) : ∃ v w, a = some v ∧ b = some w ∧ (Item.two v w, it) = r := by
  induction a with
  | none => exact nope h.symm
  | some v =>
    induction b with
    | none => exact nope h.symm
    | some w => exact ⟨v, w, rfl, rfl, (Option.some.inj h).symm⟩
inductive DAt {W : Wd} {K : Type} [DecidableEq K] (knd : KeyKind W.prog W.w K) (ρ : Rho) (h : Heap) (a : Addr) (es : List (K × CV)) (ep : Nat) : Prop
  | intro (kvs : List (K × Value)) (g2 : h.DictAt knd a kvs ep) (g3 : KVRel ρ es kvs) (hl : es.length = kvs.length)
theorem Ok.dAtS {h : Heap} (O : Ok W S ρ st h) {k ep : Nat} {es : List (Str × CV)} {a : Addr} (e : st.heap[k]? = some (.dictS es ep)) (hk : ρ[k]? = some [a]) (he : ep ≠ unk) : DAt (strKind W.prog W.w) ρ h a es ep := by
  obtain ⟨aa, kvs, rep, e1, _, g2, g3, g4, g5⟩ := O.dictS e ⟨a, [], hk, rfl⟩
  cases e1
  obtain rfl := g5 he
  exact ⟨kvs, g2, g3, g3.length⟩
theorem Ok.dAtI {h : Heap} (O : Ok W S ρ st h) {k ep : Nat} {es : List (Int × CV)} {a : Addr} (e : st.heap[k]? = some (.dictI es ep)) (hk : ρ[k]? = some [a]) (he : ep ≠ unk) : DAt (intKind W.prog W.w) ρ h a es ep := by
  obtain ⟨aa, kvs, rep, e1, _, g2, g3, g4, g5⟩ := O.dictI e ⟨a, [], hk, rfl⟩
  cases e1
  obtain rfl := g5 he
  exact ⟨kvs, g2, g3, g3.length⟩
noncomputable def EndQ (W : Wd) (S : Sit) (ρ : Rho) (st : St) (s : Shared) (Q : Option Value → Shared → Prop) : Prop := ∀ s', Ok W S ρ st s'.heap → Same s s' → Q none s'
noncomputable def EndG (W : Wd) (S : Sit) (s : Shared) (v : Value) (Q : Option Value → Shared → Prop) (E : Value → Shared → Prop) : Prop := wpAny (model W.prog W.w) S.A (pyNext v) Q E s
section
variable {Q : Option Value → Shared → Prop} {E : Value → Shared → Prop}
theorem end_seq {t : Bool} {k i : Nat} {xs : List CV} {v : Value} (H : Hid W S ρ0 L ρ st s.heap) (hh : S.A.handled = none) (hI : ItRel W ρ L v (.seq t k i)) (q : st.heap[k]?.bind (seqOf t) = some xs) (q2 : xs[i]? = none) (hQ : EndQ W S ρ st s Q) : EndG W S s v Q E := by
  obtain ⟨I, o, a, rfl, rfl, h3, h4, h5⟩ := hI
  obtain ⟨vs, n, g1, g2⟩ := H.bare.seq (seqOf_some q) h3
  have g3 := none_of_len g2 q2
  clear q q2 g2
  induction t with
  | false => exact wpAny_pyNext_list_end hh ⟨o, H.at (.head _), h4, h5⟩ ⟨_, g1, rfl, n, rfl⟩ g3 fun h' hx => hQ _ (H.done fun b o' hb e => hx b o' (not_mem1 hb) e) Same.rfl
  | true => exact wpAny_pyNext_tuple_end hh ⟨o, H.at (.head _), h4, h5⟩ ⟨_, g1, rfl, n, rfl⟩ g3 fun h' hx => hQ _ (H.done fun b o' hb e => hx b o' (not_mem1 hb) e) Same.rfl
theorem end_enm {t : Bool} {k i : Nat} {xs : List CV} {v : Value} (H : Hid W S ρ0 L ρ st s.heap) (hh : S.A.handled = none) (hI : ItRel W ρ L v (.enm t k i)) (q : st.heap[k]?.bind (seqOf t) = some xs) (q2 : xs[i]? = none) (hQ : EndQ W S ρ st s Q) : EndG W S s v Q E := by
  obtain ⟨I, it, o, a, old, rfl, h2, rfl, h3, h4, h5⟩ := hI
  obtain ⟨vs, n, g1, g2⟩ := H.bare.seq (seqOf_some q) h3
  have g3 := none_of_len g2 q2
  have hit := H.at (a := it) (o := o) (.tail _ (.head _))
  clear q q2 g2
  induction t with
  | false =>
    refine wpAny_pyNext_enum_endD (n := i) (draws_end (St := fun h => h.IsListIter it a i ∧ h.IsList a vs) (fp := [it, a]) ?_ ?_ fun s Q E hst hE => wpAny_nextOf_list_end hh hst.1 hst.2 g3 hE) (H.at (.head _)) ⟨rfl, ⟨o, hit, h4, h5⟩, ⟨_, g1, rfl, n, rfl⟩⟩
      fun h' hx => hQ _ (H.done fun b o' hb e => hx b o' (fun q => hb (q ▸ .tail _ (.head _))) e) Same.rfl
    · exact fun h hst => let ⟨o, ho, _⟩ := hst.1; ⟨o, ho⟩
    · exact fun h h' hst hk => ⟨hst.1.at fun o e => hk it (.head _) o e, hst.2.at fun o e => hk a (.tail _ (.head _)) o e⟩
  | true =>
    refine wpAny_pyNext_enum_endD (n := i) (draws_end (St := fun h => h.IsTupleIter it a i ∧ h.IsTuple a vs) (fp := [it, a]) ?_ ?_ fun s Q E hst hE => nextOf_tuple_end hh hst.1 hst.2 g3 hE) (H.at (.head _)) ⟨rfl, ⟨o, hit, h4, h5⟩, ⟨_, g1, rfl, n, rfl⟩⟩
      fun h' hx => hQ _ (H.done fun b o' hb e => hx b o' (fun q => hb (q ▸ .tail _ (.head _))) e) Same.rfl
    · exact fun h hst => let ⟨o, ho, _⟩ := hst.1; ⟨o, ho⟩
    · exact fun h h' hst hk => ⟨isTupleIter_at hst.1 fun o e => hk it (.head _) o e, isTuple_at hst.2 fun o e => hk a (.tail _ (.head _)) o e⟩
theorem end_zp {k l i : Nat} {xs ys : List CV} {v : Value} (H : Hid W S ρ0 L ρ st s.heap) (hh : S.A.handled = none) (hI : ItRel W ρ L v (.zp k l i)) (q : st.heap[k]?.bind (seqOf false) = some xs) (q' : st.heap[l]?.bind (seqOf false) = some ys) (hend : xs[i]? = none ∨ ys[i]? = none) (hQ : EndQ W S ρ st s Q) : EndG W S s v Q E := by
  obtain ⟨I, TI, TO, i1, i2, o1, o2, a, b, x, y, rfl, d1, d2, d3, d4, d5, d6, d7, d8, d9, d10, rfl, h3, h4, h5, h6, h7, h8⟩ := hI
  obtain ⟨vs, n, g1, g2⟩ := H.bare.seq (seqOf_some q) h3
  obtain ⟨ws, m, g3, g4⟩ := H.bare.seq (seqOf_some q') h4
  have e1 := H.ne h3 (seqOf_some q)
  have e2 := H.ne h4 (seqOf_some q')
  exact wpAny_pyNext_zip_end hh ⟨d1, d2, d3, d4, d5, d6, d7, d8, d9, d10, e1 I (.head _), e1 TO (.tail _ (.tail _ (.head _))), e1 i1 (.tail _ (.tail _ (.tail _ (.head _)))), e1 i2 (.tail _ (.tail _ (.tail _ (.tail _ (.head _))))), e2 I (.head _), e2 TO (.tail _ (.tail _ (.head _))), e2 i1 (.tail _ (.tail _ (.tail _ (.head _)))), e2 i2 (.tail _ (.tail _ (.tail _ (.tail _ (.head _)))))⟩
    (H.at (.head _)) (H.at (.tail _ (.head _))) (H.at (.tail _ (.tail _ (.head _)))) ⟨o1, H.at (.tail _ (.tail _ (.tail _ (.head _)))), h5, h6⟩ ⟨o2, H.at (.tail _ (.tail _ (.tail _ (.tail _ (.head _))))), h7, h8⟩ ⟨_, g1, rfl, n, rfl⟩ ⟨_, g3, rfl, m, rfl⟩ (hend.imp (none_of_len g2) (none_of_len g4))
    fun h' hx => hQ _ (H.done fun b o' hb e => hx b o' (fun q => hb (q ▸ .head _)) (fun q => hb (q ▸ .tail _ (.tail _ (.head _)))) (fun q => hb (q ▸ .tail _ (.tail _ (.tail _ (.head _))))) (fun q => hb (q ▸ .tail _ (.tail _ (.tail _ (.tail _ (.head _)))))) e) Same.rfl
theorem len_none {K : Type} {es : List (K × CV)} {kvs : List (K × Value)} {i : Nat} (hl : es.length = kvs.length) (q : es[i]? = none) : kvs[i]? = none := List.getElem?_eq_none_iff.mpr (hl ▸ List.getElem?_eq_none_iff.mp q)
theorem end_keys {K : Type} [DecidableEq K] {knd : KeyKind W.prog W.w K} {es : List (K × CV)} {k ep i : Nat} {v : Value} (H : Hid W S ρ0 L ρ st s.heap) (hh : S.A.handled = none) (hI : ItRel W ρ L v (.keys k ep es.length i)) (q : ∀ a, ρ[k]? = some [a] → DAt knd ρ s.heap a es ep) (q2 : es[i]? = none) (hQ : EndQ W S ρ st s Q) : EndG W S s v Q E := by
  obtain ⟨I, o, a, rfl, rfl, h3, h4, h5⟩ := hI
  obtain ⟨kvs, g2, g3, hl⟩ := q a h3
  exact wpAny_pyNext_dict_end hh ⟨o, H.at (.head _), h4, hl ▸ h5⟩ g2 (len_none hl q2) fun h' hx => hQ _ (H.done fun b o' hb e => hx b o' (not_mem1 hb) e) Same.rfl
theorem end_vals {K : Type} [DecidableEq K] {knd : KeyKind W.prog W.w K} {es : List (K × CV)} {k ep i : Nat} {v : Value} (H : Hid W S ρ0 L ρ st s.heap) (hh : S.A.handled = none) (hI : ItRel W ρ L v (.vals k ep es.length i)) (q : ∀ a, ρ[k]? = some [a] → DAt knd ρ s.heap a es ep) (q2 : es[i]? = none) (hQ : EndQ W S ρ st s Q) : EndG W S s v Q E := by
  obtain ⟨I, o, a, rfl, rfl, h3, h4, h5⟩ := hI
  obtain ⟨kvs, g2, g3, hl⟩ := q a h3
  exact wpAny_pyNext_values_end hh ⟨o, H.at (.head _), h4, hl ▸ h5⟩ g2 (len_none hl q2) fun h' hx => hQ _ (H.done fun b o' hb e => hx b o' (not_mem1 hb) e) Same.rfl
end
theorem next_none (H : Hid W S ρ0 L ρ st s.heap) {it : It} {v : Value} (hI : ItRel W ρ L v it) (hn : nextI it st = some none) {Q : Option Value → Shared → Prop} {E : Value → Shared → Prop}
    (hQ : ∀ s', Ok W S ρ st s'.heap → Same s s' → Q none s') : wpAny (model W.prog W.w) S.A (pyNext v) Q E s := by
  change EndQ W S ρ st s Q at hQ
  change EndG W S s v Q E
  replace hn := nextI_some hn
  have hh := H.bare.ctx.handled (by rw [← H.bare.dep]; exact hn.1)
  replace hn := hn.2
  induction it with
  | seq t k i =>
    obtain ⟨xs, q, q2⟩ := seq_next hn
    exact end_seq H hh hI q (map_none q2) hQ
  | rng xs =>
    obtain ⟨I, x, c, rfl, rfl, h3⟩ := hI
    cases xs with
    | cons y r => exact nope (Option.some.inj hn).symm
    | nil => exact wpAny_pyNext_range_end hh (H.at (.head _)) (by simp) fun h' hx => hQ _ (H.done fun b o' hb e => hx b o' (not_mem1 hb) e) Same.rfl
  | enm t k i =>
    obtain ⟨xs, q, q2⟩ := enm_next hn
    exact end_enm H hh hI q (map_none q2) hQ
  | zp k l i =>
    obtain ⟨xs, ys, q, q', q2⟩ := zp_next hn
    exact end_zp H hh hI q q' (zpNext_none q2) hQ
  | keys k ep n i =>
    rcases keys_next hn with ⟨es, q, q1, rfl, q2⟩ | ⟨es, q, q1, rfl, q2⟩
    · exact end_keys H hh hI (fun a h => H.bare.dAtS q h q1) (map_none q2) hQ
    · exact end_keys H hh hI (fun a h => H.bare.dAtI q h q1) (map_none q2) hQ
  | vals k ep n i =>
    obtain ⟨es, q, q1, rfl, q2⟩ := vals_next hn
    exact end_vals H hh hI (fun a h => H.bare.dAtS q h q1) (map_none q2) hQ

noncomputable def Fits : Item → Expr → Prop
  | .one _, _ => True
  | .two _ _, tgt => ∃ elts x1 pos, tgt = .Tuple elts x1 pos
theorem letOwned_no {tgt : Expr} {I : Addr} {o : Obj} {T : String} {vs : Array Value} {u : Value} {Q : Unit → Shared → Prop} {E : Value → Shared → Prop} {A : Around} {prog : Program} {w : World} (ho : s.heap.get? I = some o) (hc : o.cls = .type T) (hd : o.data = .fields vs)
    (hT : (["enumerate", "zip", "dict_itemiterator", "dict_reverseitemiterator", "odict_iterator", "itertools.zip_longest", "itertools.pairwise"].contains T) = false) (hQ : Q () s) : wpAny (model prog w) A (letOwnedTupleGo tgt (.ref I) u) Q E s := by
  have go : ∀ a : Addr, wpAny (model prog w) A (do
      let o ← load I
      match o.cls, o.data with
      | .type n, .fields vs =>
        if ["enumerate", "zip", "dict_itemiterator", "dict_reverseitemiterator", "odict_iterator", "itertools.zip_longest", "itertools.pairwise"].contains n && vs[0]? == some (rawInt a) then
          rule "for.unpacks-the-owned-tuple"
          updateField I 0 .none
      | _, _ => pure ()) Q E s := fun a => by
    refine wpAny_bind (wpAny_load ho ?_)
    rw [hc, hd]
    dsimp only
    rw [hT, Bool.false_and]
    exact wpAny_pure hQ
  cases tgt with
  | Tuple => cases u <;> first | exact go _ | exact wpAny_pure hQ
  | List => cases u <;> first | exact go _ | exact wpAny_pure hQ
  | _ => exact wpAny_pure hQ
theorem tri1 {a : Addr} {o : Obj} {h h' : Heap} (hS : Heap.SameBut a h h') : ∀ b o', b ∉ [(a, o)].map (·.1) → h.get? b = some o' → h'.get? b = some o' := fun b o' hb e => hS.extBut b o' (not_mem1 hb) e

noncomputable def NextQ (W : Wd) (S : Sit) (ρ0 ρ : Rho) (st : St) (s : Shared) (Q : Value → Shared → Prop) (v : Value) (it' : It) (x : Item) : Prop :=
  ∀ u s' L', Hid W S ρ0 L' ρ st s'.heap → ItRel W ρ L' v it' → ItemRel ρ s'.heap x u → Same s s' → Q u s'
noncomputable def NextP (W : Wd) (S : Sit) (tgt : Expr) (v : Value) (Q : Value → Shared → Prop) (E' : Value → Shared → Prop) : Option Value → Shared → Prop :=
  fun r s1 => ∃ u, r = some u ∧ wpAny (model W.prog W.w) S.A (letOwnedTupleGo tgt v u) (fun _ s2 => Q u s2) E' s1
noncomputable def NextG (W : Wd) (S : Sit) (s : Shared) (tgt : Expr) (v : Value) (Q : Value → Shared → Prop) (E E' : Value → Shared → Prop) : Prop :=
  wpAny (model W.prog W.w) S.A (pyNext v) (NextP W S tgt v Q E') E s
section
variable {Q E E' : Value → Shared → Prop} {tgt : Expr} {it' : It} {x : Item} {v : Value}
theorem one_fin {I : Addr} {o o' : Obj} {u : Value} {T : String} {fs : Array Value} {tk : Nat} (hQ : NextQ W S ρ0 ρ st s Q (.ref I) it' x) (H : Hid W S ρ0 [(I, o)] ρ st s.heap) (e1 : h'.get? I = some o') (e2 : o'.cls = .type T) (e3 : o'.data = .fields fs)
    (hT : (["enumerate", "zip", "dict_itemiterator", "dict_reverseitemiterator", "odict_iterator", "itertools.zip_longest", "itertools.pairwise"].contains T) = false) (hS : Heap.SameBut I s.heap h') (hI : ItRel W ρ [(I, o')] (.ref I) it') (hx : ItemRel ρ h' x u) : NextP W S tgt (.ref I) Q E' (some u) { s with heap := h', toks := tk } :=
  ⟨_, rfl, letOwned_no (s := { s with heap := h', toks := tk }) e1 e2 e3 hT (hQ u _ [(I, o')] (H.turn (tri1 hS) fun p hp => List.mem_singleton.mp hp ▸ ⟨e1, .inl (.head _)⟩) hI hx Same.rfl)⟩
theorem some_seq {t : Bool} {k i : Nat} {xs : List CV} {c : CV} (H : Hid W S ρ0 L ρ st s.heap) (hI : ItRel W ρ L v (.seq t k i)) (q : st.heap[k]?.bind (seqOf t) = some xs) (q2 : xs[i]? = some c) (hQ : NextQ W S ρ0 ρ st s Q v (.seq t k (i + 1)) (.one c)) : NextG W S s tgt v Q E E' := by
  obtain ⟨I, o, a, rfl, rfl, h3, h4, h5⟩ := hI
  obtain ⟨vs, n, g1, g2⟩ := H.bare.seq (seqOf_some q) h3
  obtain ⟨u, g3, g4⟩ := some_of_get g2 q2
  clear q q2 g2
  induction t with
  | false => exact wpAny_pyNext_list_item ⟨o, H.at (.head _), h4, h5⟩ ⟨_, g1, rfl, n, rfl⟩ g3 fun h' hi hS => let ⟨o', e1, e2, e3⟩ := hi; one_fin hQ H e1 e2 e3 (by decide) hS ⟨I, o', a, rfl, rfl, h3, e2, e3⟩ g4
  | true => exact wpAny_pyNext_tuple_item ⟨o, H.at (.head _), h4, h5⟩ ⟨_, g1, rfl, n, rfl⟩ g3 fun h' hi hS => let ⟨o', e1, e2, e3⟩ := hi; one_fin hQ H e1 e2 e3 (by decide) hS ⟨I, o', a, rfl, rfl, h3, e2, e3⟩ g4
theorem rng_step {z x c : Int} {r : List Int} (h3 : ∀ (i : Nat), i < (z :: r).length → (z :: r)[i]? = some (x + c * (i : Int))) : z = x ∧ ∀ (i : Nat), i < r.length → r[i]? = some (x + c + c * (i : Int)) := by
  have h0 := h3 0 (Nat.succ_pos _)
  refine ⟨by simpa using h0, fun i hi => ?_⟩
  have := h3 (i + 1) (Nat.succ_lt_succ hi)
  rw [List.getElem?_cons_succ] at this
  rw [this, Int.natCast_succ, Int.mul_add, Int.mul_one, Int.add_comm (c * _) c, Int.add_assoc]
theorem some_rng {z : Int} {r : List Int} (H : Hid W S ρ0 L ρ st s.heap) (hI : ItRel W ρ L v (.rng (z :: r))) (hQ : NextQ W S ρ0 ρ st s Q v (.rng r) (.one (.int z))) : NextG W S s tgt v Q E E' := by
  obtain ⟨I, y, c, rfl, rfl, h3⟩ := hI
  obtain ⟨rfl, h4⟩ := rng_step h3
  refine wpAny_pyNext_range_item (H.at (.head _)) (by simp) fun h' hi hS => ?_
  rw [show (((z :: r).length : Nat) : Int) - 1 = r.length by simp] at hi
  exact one_fin hQ H hi rfl rfl (by decide) hS ⟨I, z + c, c, rfl, rfl, h4⟩ ⟨_, rfl⟩
theorem enm_fin {t : Bool} {k i : Nat} {I it a : Addr} {o oI oI' o' : Obj} {T : Value} {old : Value} {tk : Nat} {elts x1 pos} (H : Hid W S ρ0 [(I, oI), (it, o)] ρ st s.heap) (h2 : I ≠ it) (h3 : ρ[k]? = some [a]) (e1 : h'.get? it = some o') (e2 : o'.cls = .type (if t then "tuple_iterator" else "list_iterator")) (e3 : o'.data = .fields #[.ref a, .int (i + 1 : Nat) 0])
    (hk : ∀ b o, b ≠ I → b ≠ it → s.heap.get? b = some o → h'.get? b = some o) (hx : ∀ h'', Heap.SameBut I h' h'' → ItemRel ρ h'' x T) (hoI : oI' = { cls := .type "enumerate", dict := none, data := .fields #[.none, .bool false, .ref it, rawInt (i + 1 : Nat), .none, old], slots := #[] })
    (hw : ∀ Q' : Unit → Shared → Prop, (∀ h'', h''.get? I = some oI' → Heap.SameBut I h' h'' → Q' () { s with heap := h'', toks := tk }) → wpAny (model W.prog W.w) S.A (letOwnedTupleGo (.Tuple elts x1 pos) (.ref I) T) Q' E' { s with heap := h', toks := tk })
    (hQ : NextQ W S ρ0 ρ st s Q (.ref I) (.enm t k (i + 1)) x) : NextP W S (.Tuple elts x1 pos) (.ref I) Q E' (some T) { s with heap := h', toks := tk } := by
  subst hoI
  refine ⟨_, rfl, hw _ fun h'' he' hS => ?_⟩
  have e1' : h''.get? it = some o' := hS.extBut it o' (Ne.symm h2) e1
  refine hQ _ _ [(I, _), (it, o')] (H.turn (fun b o'' hb e => hS.extBut b o'' (fun q => hb (q ▸ .head _)) (hk b o'' (fun q => hb (q ▸ .head _)) (fun q => hb (q ▸ .tail _ (.head _))) e)) fun p hp => ?_)
    ⟨I, it, o', a, old, rfl, h2, rfl, h3, e2, e3⟩ (hx _ hS) Same.rfl
  rcases List.mem_cons.mp hp with rfl | hp
  · exact ⟨he', .inl (.head _)⟩
  · exact List.mem_singleton.mp hp ▸ ⟨e1', .inl (.tail _ (.head _))⟩
theorem some_enm {t : Bool} {k i : Nat} {xs : List CV} {c : CV} (H : Hid W S ρ0 L ρ st s.heap) (hh : S.A.handled = none) (hI : ItRel W ρ L v (.enm t k i)) (q : st.heap[k]?.bind (seqOf t) = some xs) (q2 : xs[i]? = some c) (ht : Fits (.two (.int i) c) tgt) (hQ : NextQ W S ρ0 ρ st s Q v (.enm t k (i + 1)) (.two (.int i) c)) : NextG W S s tgt v Q E E' := by
  obtain ⟨elts, x1, pos, rfl⟩ := ht
  obtain ⟨I, it, o, a, old, rfl, h2, rfl, h3, h4, h5⟩ := hI
  obtain ⟨vs, n, g1, g2⟩ := H.bare.seq (seqOf_some q) h3
  obtain ⟨u, g3, g4⟩ := some_of_get g2 q2
  have hne := H.ne h3 (seqOf_some q)
  have n1 : a ≠ it := hne it (.tail _ (.head _))
  have n2 : a ≠ I := hne I (.head _)
  have hi : i < vs.size := (Array.getElem?_eq_some_iff.mp g3).1
  have hit := H.at (a := it) (o := o) (.tail _ (.head _))
  have hIl : I < s.heap.objs.size := Heap.lt_size (H.at (a := I) (.head _))
  have hni : I ∉ [it, a] := fun q => by
    rcases List.mem_cons.mp q with q | q
    · exact h2 q
    · exact n2 (List.mem_singleton.mp q).symm
  clear q q2 g2 hne
  induction t with
  | false =>
    refine wpAny_pyNext_enum_itemD (Draws.list (A := S.A.in1) hh it a n1 vs) (H.at (.head _)) ⟨⟨o, hit, h4, h5⟩, ⟨_, g1, rfl, n, rfl⟩⟩ hi h2 hni fun x h' tk gx he hst hT hsz hk => ?_
    obtain rfl := Option.some.inj (gx.symm.trans g3)
    obtain ⟨o', e1, e2, e3⟩ := hst.1
    exact enm_fin (t := false) (x := .two (.int i) c) H h2 h3 e1 e2 e3 (fun b o q q' e => hk b o q q' e) (fun h'' hS => ⟨_, _, _, rfl, hS.extBut _ _ (Nat.ne_of_gt hIl) hT, ⟨_, rfl⟩, g4⟩) rfl (fun Q' hQ' => wpAny_letOwnedTupleGo_enum (s := { s with heap := h', toks := tk + 1 }) he hQ') hQ
  | true =>
    refine wpAny_pyNext_enum_itemD (draws_tuple (A := S.A.in1) hh it a n1 vs) (H.at (.head _)) ⟨⟨o, hit, h4, h5⟩, ⟨_, g1, rfl, n, rfl⟩⟩ hi h2 hni fun x h' tk gx he hst hT hsz hk => ?_
    obtain rfl := Option.some.inj (gx.symm.trans g3)
    obtain ⟨o', e1, e2, e3⟩ := hst.1
    exact enm_fin (t := true) (x := .two (.int i) c) H h2 h3 e1 e2 e3 (fun b o q q' e => hk b o q q' e) (fun h'' hS => ⟨_, _, _, rfl, hS.extBut _ _ (Nat.ne_of_gt hIl) hT, ⟨_, rfl⟩, g4⟩) rfl (fun Q' hQ' => wpAny_letOwnedTupleGo_enum (s := { s with heap := h', toks := tk + 1 }) he hQ') hQ
theorem mem5 {α : Type} {P : α → Prop} {a b c d e : α} (h1 : P a) (h2 : P b) (h3 : P c) (h4 : P d) (h5 : P e) : ∀ p ∈ [a, b, c, d, e], P p := List.forall_mem_cons.mpr ⟨h1, List.forall_mem_cons.mpr ⟨h2, List.forall_mem_cons.mpr ⟨h3, List.forall_mem_cons.mpr ⟨h4, List.forall_mem_cons.mpr ⟨h5, fun _ h => nomatch h⟩⟩⟩⟩⟩
theorem some_zp {k l i : Nat} {xs ys : List CV} {c d : CV} (H : Hid W S ρ0 L ρ st s.heap) (hI : ItRel W ρ L v (.zp k l i)) (q : st.heap[k]?.bind (seqOf false) = some xs) (q' : st.heap[l]?.bind (seqOf false) = some ys) (q2 : xs[i]? = some c) (q3 : ys[i]? = some d) (ht : Fits (.two c d) tgt) (hQ : NextQ W S ρ0 ρ st s Q v (.zp k l (i + 1)) (.two c d)) : NextG W S s tgt v Q E E' := by
  obtain ⟨elts, x1, pos, rfl⟩ := ht
  obtain ⟨I, TI, TO, i1, i2, o1, o2, a, b, x, y, rfl, d1, d2, d3, d4, d5, d6, d7, d8, d9, d10, rfl, h3, h4, h5, h6, h7, h8⟩ := hI
  obtain ⟨vs, n, g1, g2⟩ := H.bare.seq (seqOf_some q) h3
  obtain ⟨ws, m, g3, g4⟩ := H.bare.seq (seqOf_some q') h4
  obtain ⟨u, f1, f2⟩ := some_of_get g2 q2
  obtain ⟨u', f3, f4⟩ := some_of_get g4 q3
  have e1 := H.ne h3 (seqOf_some q)
  have e2 := H.ne h4 (seqOf_some q')
  have hIl : I < s.heap.objs.size := Heap.lt_size (H.at (a := I) (.head _))
  have hTI := H.at (a := TI) (o := { cls := .type "tuple", data := .seq #[.ref i1, .ref i2] }) (.tail _ (.head _))
  refine wpAny_pyNext_zip_item ⟨d1, d2, d3, d4, d5, d6, d7, d8, d9, d10, e1 I (.head _), e1 TO (.tail _ (.tail _ (.head _))), e1 i1 (.tail _ (.tail _ (.tail _ (.head _)))), e1 i2 (.tail _ (.tail _ (.tail _ (.tail _ (.head _))))), e2 I (.head _), e2 TO (.tail _ (.tail _ (.head _))), e2 i1 (.tail _ (.tail _ (.tail _ (.head _)))), e2 i2 (.tail _ (.tail _ (.tail _ (.tail _ (.head _)))))⟩
    (H.at (.head _)) hTI (H.at (.tail _ (.tail _ (.head _)))) ⟨o1, H.at (.tail _ (.tail _ (.tail _ (.head _)))), h5, h6⟩ ⟨o2, H.at (.tail _ (.tail _ (.tail _ (.tail _ (.head _))))), h7, h8⟩ ⟨_, g1, rfl, n, rfl⟩ ⟨_, g3, rfl, m, rfl⟩ f1 f3
    fun h' hz hTO hi1 hi2 hP hsz hk => ⟨_, rfl, ?_⟩
  refine wpAny_letOwnedTupleGo_zip (s := { s with heap := h' }) hz fun h'' hz' hS => ?_
  obtain ⟨p1, r1, r2, r3⟩ := hi1
  obtain ⟨p2, r4, r5, r6⟩ := hi2
  exact hQ _ _ [(I, _), (TI, _), (TO, _), (i1, p1), (i2, p2)] (H.turn (fun b o'' hb e => hS.extBut b o'' (fun q => hb (q ▸ .head _)) (hk b o'' (fun q => hb (q ▸ .head _)) (fun q => hb (q ▸ .tail _ (.tail _ (.head _)))) (fun q => hb (q ▸ .tail _ (.tail _ (.tail _ (.head _))))) (fun q => hb (q ▸ .tail _ (.tail _ (.tail _ (.tail _ (.head _)))))) e))
      (mem5 ⟨hz', .inl (.head _)⟩ ⟨hS.extBut _ _ d1 (hk _ _ d1 d5 d6 d7 hTI), .inl (.tail _ (.head _))⟩ ⟨hS.extBut _ _ d2 hTO, .inl (.tail _ (.tail _ (.head _)))⟩ ⟨hS.extBut _ _ d3 r1, .inl (.tail _ (.tail _ (.tail _ (.head _))))⟩ ⟨hS.extBut _ _ d4 r4, .inl (.tail _ (.tail _ (.tail _ (.tail _ (.head _)))))⟩))
    ⟨I, TI, TO, i1, i2, p1, p2, a, b, u, u', rfl, d1, d2, d3, d4, d5, d6, d7, d8, d9, d10, rfl, h3, h4, r2, r3, r5, r6⟩ ⟨_, _, _, rfl, hS.extBut _ _ (Nat.ne_of_gt hIl) hP, f2, f4⟩ Same.rfl
theorem some_keys {K : Type} [DecidableEq K] {knd : KeyKind W.prog W.w K} {es : List (K × CV)} {k ep i : Nat} {e : K × CV} {g : K → CV} (hg : ∀ x u, knd.is x u = true → VRel ρ (g x) u) (H : Hid W S ρ0 L ρ st s.heap) (hI : ItRel W ρ L v (.keys k ep es.length i)) (q : ∀ a, ρ[k]? = some [a] → DAt knd ρ s.heap a es ep) (q2 : es[i]? = some e) (hQ : NextQ W S ρ0 ρ st s Q v (.keys k ep es.length (i + 1)) (.one (g e.1))) : NextG W S s tgt v Q E E' := by
  obtain ⟨I, o, a, rfl, rfl, h3, h4, h5⟩ := hI
  obtain ⟨kvs, g2, g3, hl⟩ := q a h3
  obtain ⟨w, f1, f2, f3⟩ := g3.get q2
  exact wpAny_pyNext_dict_item ⟨o, H.at (.head _), h4, hl ▸ h5⟩ g2 (k := w.1) (v := w.2) f1 fun key h' hkey hi hS => let ⟨o', e1, e2, e3⟩ := hi; one_fin hQ H e1 e2 e3 (by decide) hS ⟨I, o', a, rfl, rfl, h3, e2, hl ▸ e3⟩ (f2 ▸ hg _ _ hkey)
theorem some_vals {K : Type} [DecidableEq K] {knd : KeyKind W.prog W.w K} {es : List (K × CV)} {k ep i : Nat} {e : K × CV} (H : Hid W S ρ0 L ρ st s.heap) (hI : ItRel W ρ L v (.vals k ep es.length i)) (q : ∀ a, ρ[k]? = some [a] → DAt knd ρ s.heap a es ep) (q2 : es[i]? = some e) (hQ : NextQ W S ρ0 ρ st s Q v (.vals k ep es.length (i + 1)) (.one e.2)) : NextG W S s tgt v Q E E' := by
  obtain ⟨I, o, a, rfl, rfl, h3, h4, h5⟩ := hI
  obtain ⟨kvs, g2, g3, hl⟩ := q a h3
  obtain ⟨w, f1, f2, f3⟩ := g3.get q2
  exact wpAny_pyNext_values_item ⟨o, H.at (.head _), h4, hl ▸ h5⟩ g2 (k := w.1) (v := w.2) f1 fun h' hi hS => let ⟨o', e1, e2, e3⟩ := hi; one_fin hQ H e1 e2 e3 (by decide) hS ⟨I, o', a, rfl, rfl, h3, e2, hl ▸ e3⟩ f3
end
theorem pair_inv {α β : Type} {a : α} {b : β} {c : α} {d : β} (h : (a, b) = (c, d)) : a = c ∧ b = d := Prod.mk.inj h
theorem next_some (H : Hid W S ρ0 L ρ st s.heap) {it it' : It} {x : Item} {v : Value} (hI : ItRel W ρ L v it) (hn : nextI it st = some (some (x, it'))) {tgt : Expr} (ht : Fits x tgt) {Q : Value → Shared → Prop} {E E' : Value → Shared → Prop}
    (hQ : ∀ u s' L', Hid W S ρ0 L' ρ st s'.heap → ItRel W ρ L' v it' → ItemRel ρ s'.heap x u → Same s s' → Q u s') :
    wpAny (model W.prog W.w) S.A (pyNext v) (fun r s1 => ∃ u, r = some u ∧ wpAny (model W.prog W.w) S.A (letOwnedTupleGo tgt v u) (fun _ s2 => Q u s2) E' s1) E s := by
  change NextQ W S ρ0 ρ st s Q v it' x at hQ
  change NextG W S s tgt v Q E E'
  replace hn := nextI_some hn
  have hh := H.bare.ctx.handled (by rw [← H.bare.dep]; exact hn.1)
  replace hn := hn.2
  induction it with
  | seq t k i =>
    obtain ⟨xs, q, q2⟩ := seq_next hn
    replace q2 := map_some q2
    obtain ⟨c, q2, e⟩ := q2
    obtain ⟨rfl, rfl⟩ := pair_inv e
    exact some_seq H hI q q2 hQ
  | rng xs =>
    cases xs with
    | nil => exact nope (Option.some.inj hn)
    | cons z r =>
      obtain ⟨rfl, rfl⟩ := pair_inv (Option.some.inj (Option.some.inj hn))
      exact some_rng H hI hQ
  | enm t k i =>
    obtain ⟨xs, q, q2⟩ := enm_next hn
    replace q2 := map_some q2
    obtain ⟨c, q2, e⟩ := q2
    obtain ⟨rfl, rfl⟩ := pair_inv e
    exact some_enm H hh hI q q2 ht hQ
  | zp k l i =>
    obtain ⟨xs, ys, q, q', q2⟩ := zp_next hn
    replace q2 := zpNext_some q2
    obtain ⟨c, d, q2, q3, e⟩ := q2
    obtain ⟨rfl, rfl⟩ := pair_inv e
    exact some_zp H hI q q' q2 q3 ht hQ
  | keys k ep n i =>
    rcases keys_next hn with ⟨es, q, q1, rfl, q2⟩ | ⟨es, q, q1, rfl, q2⟩
    · replace q2 := map_some q2
      obtain ⟨c, q2, e⟩ := q2
      obtain ⟨rfl, rfl⟩ := pair_inv e
      exact some_keys (g := CV.str) (fun _ _ => strKey_val) H hI (fun a h => H.bare.dAtS q h q1) q2 hQ
    · replace q2 := map_some q2
      obtain ⟨c, q2, e⟩ := q2
      obtain ⟨rfl, rfl⟩ := pair_inv e
      exact some_keys (g := CV.int) (fun _ _ => intKey_val) H hI (fun a h => H.bare.dAtI q h q1) q2 hQ
  | vals k ep n i =>
    obtain ⟨es, q, q1, rfl, q2⟩ := vals_next hn
    replace q2 := map_some q2
    obtain ⟨c, q2, e⟩ := q2
    obtain ⟨rfl, rfl⟩ := pair_inv e
    exact some_vals H hI (fun a h => H.bare.dAtS q h q1) q2 hQ
end
end Mine
end

section
set_option genSizeOf false
set_option genInjectivity false
namespace Mine

section
variable (T : Tx)
noncomputable def NamesOk : List Nat → List Expr → Prop
  | [], [] => True
  | i :: is, e :: es => (∃ x pos k, e = .Name x pos ∧ T.ks[i]? = some (x, k) ∧ (k = .loc ∨ k = .cell)) ∧ NamesOk is es
  | _, _ => False
structure SG (t : CT) (tgt : Expr) : Prop where
  fits : ∀ {x : Item} {st st' : St} {y : Unit}, asgI t x st = some (y, st') → Fits x tgt
  does : ∀ {S : Sit} {ρ : Rho} {st st' : St} {s : Shared} {x : Item} {u : Value} {y : Unit}, T.In S → Ok T.W S ρ st s.heap → asgI t x st = some (y, st') → ItemRel ρ s.heap x u →
    Does T.W S ρ s (assign tgt S.env u) st' (fun _ _ => True)
noncomputable def SI (ci : CI) (e : Expr) : Prop := ∀ (n : Nat), Calls T.P T.W n → ∀ {S : Sit} {ρ : Rho} {st st' : St} {s : Shared} {it : It}, T.In S → Ok T.W S ρ st s.heap → evI (run T.P n) ci st = some (it, st') →
  ∀ (Q : Value → Shared → Prop) (E : Value → Shared → Prop), (∀ v ρ' s' L, Ext ρ ρ' → Hid T.W S ρ' L ρ' st' s'.heap → ItRel T.W ρ' L v it → Same s s' → Q v s') →
    wpAny (model T.W.prog T.W.w) S.A (eval e S.env) (fun x s1 => wpAny (model T.W.prog T.W.w) S.A (pyIter x) Q E s1) E s
end
section
variable {T : Tx}
theorem NamesOk.each : ∀ {is : List Nat} {es : List Expr}, NamesOk T is es → ∀ env, (assignEach es env).length = is.length ∧ (assignEach es env).findIdx? (·.1) = none
  | [], [], _, _ => ⟨rfl, rfl⟩
  | i :: is, e :: es, ⟨⟨x, pos, k, he, _⟩, r⟩, env => by
    subst he
    obtain ⟨h1, h2⟩ := r.each env
    refine ⟨by show (assignEach es env).length + 1 = _; rw [h1]; rfl, ?_⟩
    show List.findIdx? (·.1) ((false, assign (.Name x pos) env) :: assignEach es env) = none
    rw [List.findIdx?_cons, h2]; rfl
  | [], _ :: _, h, _ => h.elim
  | _ :: _, [], h, _ => h.elim
theorem names_sound {S : Sit} (I : T.In S) : ∀ {is : List Nat} {es : List Expr} {xs : List CV} {us : List Value} {ρ : Rho} {st st' : St} {s : Shared} {y : Unit}, NamesOk T is es → Ok T.W S ρ st s.heap → asgItems is xs st = some (y, st') → VRels ρ xs us →
    Does T.W S ρ s (assignInOrder ((assignEach es S.env).map (·.2)) us) st' (fun _ _ => True)
  | [], [], xs, us, ρ, st, st', s, y, _, O, h, hv => by
    cases xs with
    | nil => (first | exact nope h | refine rt_elim h ?_ | cases h); exact fun Q E hQ => wpAny_pure (hQ _ _ _ (Ext.refl _) O trivial Same.refl)
    | cons x xs => (first | exact nope h | refine rt_elim h ?_ | cases h)
  | i :: is, e :: es, xs, us, ρ, st, st', s, y, ⟨⟨x, pos, k, he, hk, ho⟩, r⟩, O, h, hv => by
    subst he
    cases xs with
    | nil => (first | exact nope h | refine rt_elim h ?_ | cases h)
    | cons c cs =>
      cases us with
      | nil => exact hv.elim
      | cons u us =>
        unfold asgItems at h
        replace h := bnd_some h
        obtain ⟨z, st1, h1, h⟩ := h
        intro Q E hQ
        show wpAny _ _ (do holding us (assign (.Name x pos) S.env u); assignInOrder ((assignEach es S.env).map (·.2)) us) Q E s
        refine wpAny_bind (wpAny_holding (wpAny_assign_Name (store_sound O (by rw [I.ks]; exact hk) ho h1 hv.1 _ _ fun _ ρ1 s1 e1 O1 _ m1 => ?_)))
        exact names_sound I r O1 h (hv.2.mono e1) _ _ fun a ρ2 s2 e2 O2 p2 m2 => hQ _ _ _ (e1.trans e2) O2 trivial (m1.trans m2)
  | [], _ :: _, _, _, _, _, _, _, _, h, _, _, _ => h.elim
  | _ :: _, [], _, _, _, _, _, _, _, h, _, _, _ => h.elim
theorem asgItems_len : ∀ {is : List Nat} {xs : List CV} {st : St} {r : Unit × St}, asgItems is xs st = some r → is.length = xs.length
  | [], [], _, _, _ => rfl
  | i :: is, x :: xs, st, r, h => by
    unfold asgItems at h
    replace h := bnd_some h
    obtain ⟨z, st1, h1, h⟩ := h
    simp [asgItems_len h]
  | [], _ :: _, _, _, h => by cases h
  | _ :: _, [], _, _, h => by cases h
theorem guardD_some {α : Type} {c : M α} {st : St} {r : α × St} (h : guardD c st = some r) : st.dep ≠ 0 ∧ c st = some r := by
  unfold guardD at h
  split at h
  · (first | exact nope h | refine rt_elim h ?_ | cases h)
  · rename_i q; exact ⟨q, h⟩
theorem tuple_sound {S : Sit} (I : T.In S) {is : List Nat} {es : List Expr} {k : Nat} {pos : Pos} {xs : List CV} {vs : Array Value} {ρ : Rho} {st st' : St} {s : Shared} {y : Unit} {a : Addr} (hN : NamesOk T is es) (O : Ok T.W S ρ st s.heap) (ht : s.heap.IsTuple a vs)
    (hd : st.dep ≠ 0) (h : asgItems is xs st = some (y, st')) (hv : VRels ρ xs vs.toList) : Does T.W S ρ s (assign (.Tuple es k pos) S.env (.ref a)) st' (fun _ _ => True) := by
  intro Q E hQ
  obtain ⟨l1, l2⟩ := hN.each S.env
  have l3 := asgItems_len h
  have l4 := hv.length
  simp only [Array.length_toList] at l4
  refine wpAny_assign_Tuple (O.ctx.handled (by rw [← O.dep]; exact hd)) ht (by rw [l1, l3, l4]) l2 fun h' hx => ?_
  have O' : Ok T.W S ρ st h' := O.keeps fun b o e => hx b o (Nat.ne_of_lt (Heap.lt_size e)) e
  exact names_sound (s := { s with heap := h' }) I hN O' h hv Q E fun a ρ2 s2 e2 O2 p2 m2 => hQ _ _ _ e2 O2 trivial (Same.trans Same.rfl m2)

theorem SG.var {i : Nat} {x : Str} {k : SK} {pos : Pos} (hk : T.ks[i]? = some (x, k)) (ho : k = .loc ∨ k = .cell := by decide) : SG T (.var i) (.Name x pos) where
  fits {it st st' y} h := by
    induction it with
    | one v => trivial
    | two v w => (first | exact nope h | refine rt_elim h ?_ | cases h)
  does {S ρ st st' s it u y} I O h hv := by
    induction it with
    | one v => exact fun Q E hQ => wpAny_assign_Name (store_sound O (by rw [I.ks]; exact hk) ho h hv Q E hQ)
    | two v w => (first | exact nope h | refine rt_elim h ?_ | cases h)
theorem SG.vars {i j : Nat} {is : List Nat} {es : List Expr} {k : Nat} {pos : Pos} (hN : NamesOk T (i :: j :: is) es) : SG T (.vars (i :: j :: is)) (.Tuple es k pos) where
  fits {it st st' y} h := by
    induction it with
    | one v => trivial
    | two v w => exact ⟨_, _, _, rfl⟩
  does {S ρ st st' s it u y} I O h hv := by
    cases it with
    | one v =>
      have h' : guardD (bnd (look v) (fun o => match o.2 with
        | .tuple xs => asgItems (i :: j :: is) xs
        | _ => no)) st = some (y, st') := by
        cases is <;> exact h
      obtain ⟨hd, h'⟩ := guardD_some h'
      replace h' := bnd_some h'
      obtain ⟨⟨k', co⟩, st1, h1, h'⟩ := h'
      (replace h1 := look_some h1; obtain ⟨rfl, e2, rfl⟩ := h1)
      dsimp only at e2 h'
      induction co with
      | tuple xs =>
        obtain ⟨a, vs, n, rfl, _, g1, g2⟩ := O.tuple e2 hv
        exact tuple_sound I hN O ⟨_, g1, rfl, n, rfl⟩ hd h' g2
      | _ => (first | exact nope h' | cases h')
    | two v w =>
      obtain ⟨a, x, y', rfl, g1, g2, g3⟩ := hv
      cases is with
      | cons l r => (first | exact nope h | refine rt_elim h ?_ | cases h)
      | nil =>
        have h' : guardD (bnd (setL i v) (fun _ => setL j w)) st = some (y, st') := h
        obtain ⟨hd, h'⟩ := guardD_some h'
        refine tuple_sound I hN O ⟨_, g1, rfl, 0, rfl⟩ (xs := [v, w]) (y := y) hd ?_ ⟨g2, g3, trivial⟩
        replace h' := bnd_some h'
        obtain ⟨z, st1, h1, h'⟩ := h'
        unfold asgItems bnd
        rw [h1]
        dsimp only
        unfold asgItems bnd
        rw [h']
        rfl

theorem In.plus {S : Sit} {L : List (Addr × Obj)} (I : T.In S) : T.In (S.plus L) := ⟨I.sc, I.ks⟩
inductive run_fR (n : Nat) (it : It) (t : CT) (body : List CS) (orelse : List CS) (st : St) (r : CF × St) : Prop
  | intro m (f1 : n = m + 1) (f2 : stepF (run T.P m) it t body orelse st = some r)
theorem run_f {n : Nat} {it : It} {t : CT} {body orelse : List CS} {st : St} {r : CF × St} (h : (run T.P n).f it t body orelse st = some r) : run_fR (T := T) n it t body orelse st r := by
  cases n with
  | zero => (first | exact nope h | refine rt_elim h ?_ | cases h)
  | succ m => exact ⟨m, rfl, h⟩
inductive run_wR (n : Nat) (t : CE) (body : List CS) (orelse : List CS) (st : St) (r : CF × St) : Prop
  | intro m (f1 : n = m + 1) (f2 : stepW (run T.P m) t body orelse st = some r)
theorem run_w {n : Nat} {t : CE} {body orelse : List CS} {st : St} {r : CF × St} (h : (run T.P n).w t body orelse st = some r) : run_wR (T := T) n t body orelse st r := by
  cases n with
  | zero => (first | exact nope h | refine rt_elim h ?_ | cases h)
  | succ m => exact ⟨m, rfl, h⟩
theorem next_turn {W : Wd} {S : Sit} {ρ ρ0 : Rho} {st : St} {s : Shared} {L : List (Addr × Obj)} (H : Hid W S ρ0 L ρ st s.heap) {it it' : It} {x : Item} {v : Value} (hI : ItRel W ρ L v it) (hn : nextI it st = some (some (x, it'))) {tgt : Expr} (ht : Fits x tgt) {X : Option Value → Shared → Prop} {Y : Value → Shared → Prop} {E E' : Value → Shared → Prop}
    (hX : ∀ u s1, wpAny (model W.prog W.w) S.A (letOwnedTupleGo tgt v u) (fun _ s2 => Y u s2) E' s1 → X (some u) s1)
    (hQ : ∀ u s' L', Hid W S ρ0 L' ρ st s'.heap → ItRel W ρ L' v it' → ItemRel ρ s'.heap x u → Same s s' → Y u s') : wpAny (model W.prog W.w) S.A (pyNext v) X E s :=
  wpAny_mono (next_some H hI hn ht hQ) (fun r s1 hr => by obtain ⟨u, rfl, hr⟩ := hr; exact hX u s1 hr) fun _ _ e => e
inductive ForInv (T : Tx) (S : Sit) (ρ0 : Rho) (m : Nat) (v : Value) (t : CT) (body orelse : List CS) (f : CF) (st' : St) (s : Shared) (n : Nat) (s' : Shared) : Prop
  | intro (ρ' : Rho) (st2 : St) (L : List (Addr × Obj)) (it : It) (f1 : n ≤ m) (f2 : Hid T.W S ρ0 L ρ' st2 s'.heap) (f3 : ItRel T.W ρ' L v it) (f4 : (run T.P n).f it t body orelse st2 = some (f, st')) (f5 : Same s s')
inductive ForStep (T : Tx) (n : Nat) (it : It) (t : CT) (body orelse : List CS) (st : St) (r : CF × St) : Prop
  | stop (k : Nat) (e : n = k + 1) (q : nextI it st = some none) (h : (run T.P k).b orelse st = some r)
  | turn (k : Nat) (x : Item) (it' : It) (y : Unit) (st3 : St) (fl : CF) (st4 : St) (e : n = k + 1) (q : nextI it st = some (some (x, it'))) (h3 : asgI t x st = some (y, st3)) (h4 : (run T.P k).b body st3 = some (fl, st4))
      (h : (match (motive := CF → M CF) fl with | .brk => rt CF.next | .ret v => rt (CF.ret v) | _ => (run T.P k).f it' t body orelse) st4 = some r)
theorem for_step {n : Nat} {it : It} {t : CT} {body orelse : List CS} {st : St} {r : CF × St} (h : (run T.P n).f it t body orelse st = some r) : ForStep T n it t body orelse st r := by
  replace h := run_f h
  obtain ⟨k, e, h⟩ := h
  unfold stepF at h
  cases q : nextI it st with
  | none => rw [q] at h; exact nope h
  | some r =>
    rw [q] at h
    induction r with
    | none => exact .stop k e q h
    | some p =>
      obtain ⟨x, it'⟩ := p
      replace h := bnd_some h
      obtain ⟨y, st3, h3, h⟩ := h
      replace h := bnd_some h
      obtain ⟨fl, st4, h4, h⟩ := h
      exact .turn k x it' y st3 fl st4 e q h3 h4 h
inductive WhileInv (T : Tx) (S : Sit) (ρ : Rho) (m : Nat) (t : CE) (body orelse : List CS) (f : CF) (st' : St) (s : Shared) (n : Nat) (s' : Shared) : Prop
  | intro (ρ' : Rho) (st2 : St) (f1 : n ≤ m) (f2 : Ext ρ ρ') (f3 : Ok T.W S ρ' st2 s'.heap) (f4 : (run T.P n).w t body orelse st2 = some (f, st')) (f5 : Same s s')
theorem SS.for {t : CT} {ci : CI} {body orelse : List CS} {tgt iter : Expr} {rb ro : List Stmt} {pos : Pos} (ht : SG T t tgt) (hi : SI T ci iter) (hb : SB T body rb) (ho : SB T orelse ro)
    (hs : ∀ env x, foldedSetIterable iter env x = pure x := by intro _ _; rfl) : SS T (.for t ci body orelse) (.For tgt iter rb ro pos) := fun n C S ρ st st' s f I O h => by
  replace h := run_s h
  obtain ⟨m, rfl, h⟩ := h
  unfold stepS at h
  replace h := bnd_some h
  obtain ⟨it, st1, h1, h⟩ := h
  intro Q E hQ
  refine wpAny_For (hi m C.down I O h1 _ _ fun v ρ0 s0 L0 e0 H0 I0 m0 => ?_) (hs _)
  refine codeAny_forLoop_any (fun n s' => ForInv T S ρ0 m v t body orelse f st' s n s') ?_ m ⟨ρ0, st1, L0, it, Nat.le_refl _, H0, I0, h, m0⟩
  clear H0 I0 h h1 O
  rintro n s' ⟨ρ', st2, L, it, hn, H, hI, h, m1⟩
  replace h := for_step h
  rcases h with ⟨k, rfl, q, h⟩ | ⟨k, x, it', y, st3, fl, st4, rfl, q, h3, h4, h⟩
  · have Ck : Calls T.P T.W k := fun j hj => C j (by omega)
    refine next_none H hI q fun s2 O2 m2 => ho k Ck I O2 h _ _ fun u3 ρ3 s3 e3 O3 p3 m3 => ?_
    exact hQ _ _ _ ((e0.trans H.ext).trans e3) O3 p3 ((m1.trans m2).trans m3)
  · have Ck : Calls T.P T.W k := fun j hj => C j (by omega)
    have hk : k ≤ m := Nat.le_of_succ_le hn
    clear hn
    refine next_turn H hI q (ht.fits h3) (fun u s1 hr => hr) fun u s2 L' H' I' hu m2 => ?_
    refine ht.does (In.plus I) H'.ok h3 hu _ _ fun _ ρ5 s5 e5 O5 _ m5 => hb k Ck (In.plus I) O5 h4 _ _ fun fr ρ6 s6 e6 O6 p6 m6 => ?_
    have H6 := H'.after (e5.trans e6) O6
    have mm := ((m1.trans m2).trans m5).trans m6
    have ee : Ext ρ ρ6 := e0.trans H6.ext
    replace I' := I'.mono (e5.trans e6)
    clear H hI H' h3 h4 O5 hu q m1 m2 m5 m6 e5 e6 O6
    induction fl with
    | next => cases p6; exact ⟨k, Nat.lt_succ_self _, ρ6, st4, L', it', hk, H6, I', h, mm⟩
    | cont => cases p6; exact ⟨k, Nat.lt_succ_self _, ρ6, st4, L', it', hk, H6, I', h, mm⟩
    | brk => cases p6; (first | exact nope h | cases h); exact hQ _ _ _ ee H6.bare rfl mm
    | ret w => obtain ⟨u7, rfl, hu7⟩ := p6; (first | exact nope h | cases h); exact hQ _ _ _ ee H6.bare ⟨u7, rfl, hu7⟩ mm
theorem SS.while {t : CE} {body orelse : List CS} {test : Expr} {rb ro : List Stmt} {pos : Pos} (ht : STt T t test) (hb : SB T body rb) (ho : SB T orelse ro) : SS T (.while t body orelse) (.While test rb ro pos) := fun n C S ρ st st' s f I O h => by
  replace h := run_s h
  obtain ⟨m, rfl, h⟩ := h
  unfold stepS at h
  intro Q E hQ
  refine wpAny_While ?_
  refine codeAny_whileLoop (fun n s' => WhileInv T S ρ m t body orelse f st' s n s') ?_ m ⟨ρ, st, Nat.le_refl _, Ext.refl _, O, h, Same.refl⟩
  rintro n s' ⟨ρ', st2, hn, e0, O', h, m1⟩
  replace h := run_w h
  obtain ⟨k, rfl, h⟩ := h
  have Ck : Calls T.P T.W k := fun j hj => C j (by omega)
  unfold stepW at h
  replace h := bnd_some h
  obtain ⟨c, st3, h3, h⟩ := h
  refine ht k Ck I O' h3 _ _ fun c' ρ3 s3 e3 O3 p3 m3 => ?_
  subst p3
  induction c' with
  | false =>
    exact ho k Ck I O3 h _ _ fun u4 ρ4 s4 e4 O4 p4 m4 => hQ _ _ _ ((e0.trans e3).trans e4) O4 p4 ((m1.trans m3).trans m4)
  | true =>
    replace h := bnd_some h
    obtain ⟨fl, st4, h4, h⟩ := h
    refine hb k Ck I O3 h4 _ _ fun fr ρ6 s6 e6 O6 p6 m6 => ?_
    have mm := (m1.trans m3).trans m6
    have ee : Ext ρ ρ6 := (e0.trans e3).trans e6
    induction fl with
    | next => cases p6; exact ⟨k, Nat.lt_succ_self _, ρ6, st4, by omega, ee, O6, h, mm⟩
    | cont => cases p6; exact ⟨k, Nat.lt_succ_self _, ρ6, st4, by omega, ee, O6, h, mm⟩
    | brk => cases p6; (first | exact nope h | cases h); exact hQ _ _ _ ee O6 rfl mm
    | ret w => obtain ⟨u7, rfl, hu7⟩ := p6; (first | exact nope h | cases h); exact hQ _ _ _ ee O6 ⟨u7, rfl, hu7⟩ mm
end
end Mine
end

section
set_option genSizeOf false
set_option genInjectivity false
namespace Mine
noncomputable def Kp (W : Wd) (f : Value) : Prop := ∀ h, W.K.In h → ∃ k, (k = Keeper.frame ∨ k = Keeper.machine ∨ k = Keeper.boundFrame) ∧ Looks (model W.prog W.w) h (keeperOf f) k
theorem Kp.type {W : Wd} {t : String} : Kp W (.type t) := fun _ _ => ⟨.machine, .inr (.inl rfl), Looks.of_pure rfl⟩
theorem Kp.builtin {W : Wd} {t : String} : Kp W (.builtin t) := fun _ _ => ⟨.machine, .inr (.inl rfl), Looks.of_pure rfl⟩
theorem Kp.known {W : Wd} {f : Value} (h : keepIn W.K f = true) : Kp W f := keeps_K h
structure BN (T : Tx) (x : Str) (f : Value) : Prop where
  sc : T.sc.names.lookup x = some .globalImplicit
  top : nsIn T.W.K mainGlobals x = some none
  boot : bootBuiltins x = some f
  name : x ≠ "__name__"
  debug : (x == ("__debug__" : Str)) = false
section
variable {T : Tx}
theorem BN.load {x : Str} {f : Value} {np : Pos} (b : BN T x f) {S : Sit} {ρ : Rho} {st : St} {s : Shared} (I : T.In S) (O : Ok T.W S ρ st s.heap) : Does T.W S ρ s (eval (.Name x np) S.env) st (fun _ r => r = f) := by
  have h := SE.blt (T := T) (pos := np) b.sc b.top b.boot (v := .lit f) (show TopVal T.W (.lit f) f from rfl) b.name b.debug
  intro Q E hQ
  exact h 1 (fun m hm => by
    have : m = 0 := by omega
    subst this; intro S ρ st st' s f args us v O h; cases h) I O (v := .lit f) (st' := st) rfl Q E fun a ρ' s' e O' p m => hQ a ρ' s' e O' p m
theorem callW {f : Value} {first : List Value} {cs : List CE} {es : List Expr} {pos : Pos} (hk : Kp T.W f) (ha : SEs T cs es) {n : Nat} (C : Calls T.P T.W n) {S : Sit} {ρ : Rho} {st st1 : St} {s : Shared} {vs : List CV} (I : T.In S) (O : Ok T.W S ρ st s.heap)
    (h : evs (run T.P n) cs st = some (vs, st1)) {Q E : Value → Shared → Prop} (hQ : ∀ us ρ1 s1, Ext ρ ρ1 → Ok T.W S ρ1 st1 s1.heap → VRels ρ1 vs us → Same s s1 → wpAny (model T.W.prog T.W.w) S.A (call f (first ++ us)) Q E s1) :
    wpAny (model T.W.prog T.W.w) S.A (callWith pos f first (backTo pos (starEach es S.env)) []) Q E s := by
  refine callWith_of (P := fun h => T.W.K.In h) (by rw [ha.plain]; rfl) hk ?_
  have go := ha.does pos n C I O h (fun us s1 => T.W.K.In s1.heap ∧ wpAny (model T.W.prog T.W.w) S.A (call f (first ++ us)) Q E s1) E fun us ρ1 s1 e1 O1 p1 m1 => ⟨O1.inK, hQ us ρ1 s1 e1 O1 p1 m1⟩
  rcases ha.shape with q | q
  · subst q
    unfold evalArgs
    show wpAny _ _ (spliced [] >>= _) _ _ _
    refine wpAny_bind (wpAny_mono go (fun vs s' h' => ?_) fun _ _ x => x)
    refine wpAny_holding ?_
    exact wpAny_bind (wpAny_pure (wpAny_bind (wpAny_pure (wpAny_pure h'))))
  · obtain ⟨x, r, e⟩ := q S.env pos
    rw [e] at go ⊢
    exact Calls.evalArgs_plain go

noncomputable def PrimOk (p : Prim) (f : Value) : Prop := ∀ {W : Wd} {S : Sit} {ρ : Rho} {st st' : St} {s : Shared} {vs : List CV} {us : List Value} {v : CV}, Ok W S ρ st s.heap → primV p vs st = some (v, st') → VRels ρ vs us →
  Does W S ρ s (call f us) st' (fun ρ' r => VRel ρ' v r)
theorem SE.primN {p : Prim} {x : Str} {f : Value} {cs : List CE} {es : List Expr} {np pos : Pos} (hp : PrimOk p f) (hb : BN T x f) (hk : Kp T.W f) (ha : SEs T cs es) : SE T (.prim p cs) (.Call (.Name x np) es [] pos) := fun n C S ρ st st' s v I O h => by
  replace h := run_e h
  obtain ⟨m, rfl, h⟩ := h
  unfold stepE at h
  replace h := bnd_some h
  obtain ⟨vs, st1, h1, h⟩ := h
  intro Q E hQ
  refine wpAny_Call_ofName (hb.load I O _ _ fun g ρ0 s0 e0 O0 p0 m0 => ?_)
  subst p0
  refine callW hk ha C.down I O0 h1 fun us ρ1 s1 e1 O1 p1 m1 => ?_
  exact hp O1 h p1 _ _ fun u2 ρ2 s2 e2 O2 p2 m2 => hQ _ _ _ ((e0.trans e1).trans e2) O2 p2 ((m0.trans m1).trans m2)
theorem SI.plain {a : CE} {e : Expr} (ha : SE T a e) : SI T (.plain a) e := fun n C S ρ st st' s it I O h Q E hQ => by
  unfold evI at h
  replace h := bnd_some h
  obtain ⟨v, st1, h1, h⟩ := h
  replace h := bnd_some h
  obtain ⟨⟨k, co⟩, st2, h2, h⟩ := h
  (replace h2 := look_some h2; obtain ⟨rfl, e2, rfl⟩ := h2)
  dsimp only at h e2
  refine ha n C I O h1 _ _ fun u1 ρ1 s1 e1 O1 p1 m1 => ?_
  induction co with
  | list xs =>
    (first | exact nope h | cases h)
    obtain ⟨a, vs, k', rfl, g0, g1, g2⟩ := O1.list e2 p1
    refine wpAny_pyIter_list ⟨_, g1, rfl, k', rfl⟩ (hQ _ ρ1 _ [(s1.heap.objs.size, { cls := .type "list_iterator", data := .fields #[.ref a, .int 0 0] })] e1 (O1.hide (fun _ _ e => Heap.get?_push_of_some _ e) fun p hp => ?_) ⟨_, _, a, rfl, rfl, g0, rfl, rfl⟩ (m1.trans Same.rfl))
    rw [List.mem_singleton.mp hp]; exact ⟨Heap.get?_push_size _ rfl, Nat.le_refl _⟩
  | tuple xs =>
    (first | exact nope h | cases h)
    obtain ⟨a, vs, k', rfl, g0, g1, g2⟩ := O1.tuple e2 p1
    refine wpAny_pyIter_tuple ⟨_, g1, rfl, k', rfl⟩ (hQ _ ρ1 _ [(s1.heap.objs.size, { cls := .type "tuple_iterator", data := .fields #[.ref a, .int 0 0] })] e1 (O1.hide (fun _ _ e => Heap.get?_push_of_some _ e) fun p hp => ?_) ⟨_, _, a, rfl, rfl, g0, rfl, rfl⟩ (m1.trans Same.rfl))
    rw [List.mem_singleton.mp hp]; exact ⟨Heap.get?_push_size _ rfl, Nat.le_refl _⟩
  | dictS es ep =>
    dsimp only at h
    split at h
    · (first | exact nope h | cases h)
    · rename_i q
      (first | exact nope h | cases h)
      obtain ⟨a, kvs, rep, rfl, g0, g1, g2, g3, g4⟩ := O1.dictS e2 p1
      have := g4 q
      subst this
      refine wpAny_pyIter_dict (sysM g3) g1 (hQ _ ρ1 _ [(s1.heap.objs.size, { cls := .type "dict_keyiterator", data := .fields #[.ref a, .int 0 0, .int kvs.length 0, .int rep 0] })] e1 (O1.hide (fun _ _ e => Heap.get?_push_of_some _ e) fun p hp => ?_) ⟨_, _, a, rfl, rfl, g0, rfl, by rw [g2.length]; rfl⟩ (m1.trans Same.rfl))
      rw [List.mem_singleton.mp hp]; exact ⟨Heap.get?_push_size _ rfl, Nat.le_refl _⟩
  | dictI es ep =>
    dsimp only at h
    split at h
    · (first | exact nope h | cases h)
    · rename_i q
      (first | exact nope h | cases h)
      obtain ⟨a, kvs, rep, rfl, g0, g1, g2, g3, g4⟩ := O1.dictI e2 p1
      have := g4 q
      subst this
      refine wpAny_pyIter_dict (sysM g3) g1 (hQ _ ρ1 _ [(s1.heap.objs.size, { cls := .type "dict_keyiterator", data := .fields #[.ref a, .int 0 0, .int kvs.length 0, .int rep 0] })] e1 (O1.hide (fun _ _ e => Heap.get?_push_of_some _ e) fun p hp => ?_) ⟨_, _, a, rfl, rfl, g0, rfl, by rw [g2.length]; rfl⟩ (m1.trans Same.rfl))
      rw [List.mem_singleton.mp hp]; exact ⟨Heap.get?_push_size _ rfl, Nat.le_refl _⟩
  | _ => (first | exact nope h | cases h)
theorem SI.enum {a : CE} {e : Expr} {x : Str} {np pos : Pos} (hb : BN T x (.type "enumerate")) (ha : SE T a e) (he : ∀ env, starEach [e] env = [(false, eval e env)] := by intro _; rfl) : SI T (.enum a) (.Call (.Name x np) [e] [] pos) := fun n C S ρ st st' s it I O h Q E hQ => by
  unfold evI at h
  replace h := bnd_some h
  obtain ⟨v, st1, h1, h⟩ := h
  replace h := bnd_some h
  obtain ⟨⟨k, co⟩, st2, h2, h⟩ := h
  (replace h2 := look_some h2; obtain ⟨rfl, e2, rfl⟩ := h2)
  dsimp only at h e2
  refine wpAny_Call_ofName (hb.load I O _ _ fun g ρ0 s0 e0 O0 p0 m0 => ?_)
  subst p0
  have hev : evs (run T.P n) [a] st = some ([.ref k], st2) := by unfold evs bnd; rw [h1]; rfl
  refine callW Kp.type (SEs.cons ha SEs.nil he) C I O0 hev fun us ρ1 s1 e1 O1 p1 m1 => ?_
  cases us with
  | nil => exact p1.elim
  | cons u us =>
    cases us with
    | cons _ _ => exact p1.2.elim
    | nil =>
      replace p1 := p1.1
      induction co with
      | list xs =>
        (first | exact nope h | cases h)
        obtain ⟨a, vs, k', rfl, g0, g1, g2⟩ := O1.list e2 p1
        refine call_enumerate_list ⟨_, g1, rfl, k', rfl⟩ fun h' f1 f2 f3 f4 => wpAny_pyIter_enum (s := { s1 with heap := h' }) f1 ?_
        obtain ⟨o, r1, r2, r3⟩ := f2
        refine hQ _ ρ1 _ [(s1.heap.objs.size + 1, _), (s1.heap.objs.size, o)] (e0.trans e1) (O1.hide f4 fun p hp => ?_) ⟨_, _, o, a, .none, rfl, by exact Nat.succ_ne_self _, rfl, g0, r2, r3⟩ ((m0.trans m1).trans Same.rfl)
        rcases List.mem_cons.mp hp with rfl | hp
        · exact ⟨f1, Nat.le_succ _⟩
        · rw [List.mem_singleton.mp hp]; exact ⟨r1, Nat.le_refl _⟩
      | tuple xs =>
        (first | exact nope h | cases h)
        obtain ⟨a, vs, k', rfl, g0, g1, g2⟩ := O1.tuple e2 p1
        refine call_enum_tuple ⟨_, g1, rfl, k', rfl⟩ fun h' f1 f2 f3 f4 => wpAny_pyIter_enum (s := { s1 with heap := h' }) f1 ?_
        obtain ⟨o, r1, r2, r3⟩ := f2
        refine hQ _ ρ1 _ [(s1.heap.objs.size + 1, _), (s1.heap.objs.size, o)] (e0.trans e1) (O1.hide f4 fun p hp => ?_) ⟨_, _, o, a, .none, rfl, by exact Nat.succ_ne_self _, rfl, g0, r2, r3⟩ ((m0.trans m1).trans Same.rfl)
        rcases List.mem_cons.mp hp with rfl | hp
        · exact ⟨f1, Nat.le_succ _⟩
        · rw [List.mem_singleton.mp hp]; exact ⟨r1, Nat.le_refl _⟩
      | _ => (first | exact nope h | cases h)
inductive VConsR (ρ : Rho) (a : CV) (r : List CV) (us : List Value) : Prop
  | intro (x : Value) (xs : List Value) (e : us = x :: xs) (h1 : VRel ρ a x) (h2 : VRels ρ r xs)
theorem VRels.cons_inv {ρ : Rho} {a : CV} {r : List CV} {us : List Value} (h : VRels ρ (a :: r) us) : VConsR ρ a r us := by
  cases us with
  | nil => exact False.elim h
  | cons x xs => exact ⟨x, xs, rfl, h.1, h.2⟩
theorem VRels.zero {ρ : Rho} {us : List Value} (h : VRels ρ [] us) : us = [] := by
  cases us with
  | nil => rfl
  | cons _ _ => exact False.elim h
inductive VRels_twoR (ρ : Rho) (a : CV) (b : CV) (us : List Value) : Prop
  | intro x y (f1 : us = [x, y]) (f2 : VRel ρ a x) (f3 : VRel ρ b y)
theorem VRels.two {ρ : Rho} {a b : CV} {us : List Value} (h : VRels ρ [a, b] us) : VRels_twoR ρ a b us := by
  obtain ⟨x, xs, rfl, h1, h⟩ := h.cons_inv
  obtain ⟨y, ys, rfl, h2, h⟩ := VRels.cons_inv ‹VRels ρ [b] xs›
  obtain rfl := VRels.zero ‹VRels ρ [] ys›
  exact ⟨x, y, rfl, h1, h2⟩
inductive VRels_oneR (ρ : Rho) (a : CV) (us : List Value) : Prop
  | intro x (f1 : us = [x]) (f2 : VRel ρ a x)
theorem VRels.one {ρ : Rho} {a : CV} {us : List Value} (h : VRels ρ [a] us) : VRels_oneR ρ a us := by
  obtain ⟨x, xs, rfl, h1, h2⟩ := h.cons_inv
  obtain rfl := h2.zero
  exact ⟨x, rfl, h1⟩
inductive VRels_threeR (ρ : Rho) (a : CV) (b : CV) (c : CV) (us : List Value) : Prop
  | intro x y z (f1 : us = [x, y, z]) (f2 : VRel ρ a x) (f3 : VRel ρ b y) (f4 : VRel ρ c z)
theorem VRels.three {ρ : Rho} {a b c : CV} {us : List Value} (h : VRels ρ [a, b, c] us) : VRels_threeR ρ a b c us := by
  obtain ⟨x, xs, rfl, h1, h2⟩ := h.cons_inv
  obtain ⟨y, z, rfl, h3, h4⟩ := h2.two
  exact ⟨x, y, z, rfl, h1, h3, h4⟩
inductive rOk_isR (a : Int) (b : Int) (c : Int) : Prop
  | intro (f1 : Builtin.Range.small a b c = true) (f2 : 0 ≤ Builtin.Range.rangeSize a b c) (f3 : c ≠ 0) (f4 : -1000000 < c) (f5 : c < 1000000)
theorem rOk_is {a b c : Int} (h : rOk a b c = true) : rOk_isR a b c := by
  unfold rOk at h
  simp only [Bool.and_eq_true, decide_eq_true_eq] at h
  exact ⟨h.1.1.1.1, h.1.1.1.2, h.1.1.2, h.1.2, h.2⟩
theorem range_end {S : Sit} {ρ : Rho} {st : St} {s : Shared} {W : Wd} {a b c : Int} {t u v : Tok} {r : Addr} {h : Heap} {tk : Nat} (O : Ok W S ρ st s.heap) (hr : rOk a b c = true) (kp : ∀ b o, s.heap.get? b = some o → h.get? b = some o) (hz : s.heap.objs.size ≤ h.objs.size) (hR : IsRange h r a b c t u v)
    {Q E : Value → Shared → Prop} (hQ : ∀ v s' L, Hid W S ρ L ρ st s'.heap → ItRel W ρ L v (.rng (rangeL a b c)) → Same s s' → Q v s') : wpAny (model W.prog W.w) S.A (pyIter (.ref r)) Q E { s with heap := h, toks := tk } := by
  obtain ⟨q1, q2, q3, q4, q5⟩ := rOk_is hr
  refine wpAny_pyIter_range (s := { s with heap := h, toks := tk }) hR q1 (hQ _ _ [(h.objs.size, { cls := .type "range_iterator", data := .fields #[rawInt a, rawInt (Builtin.Range.rangeSize a b c), rawInt c] })] (O.hide (fun _ _ e => Heap.get?_push_of_some _ (kp _ _ e)) fun p hp => ?_) ⟨_, a, c, rfl, ?_, fun i hi => ?_⟩ Same.rfl)
  · rw [List.mem_singleton.mp hp]; exact ⟨Heap.get?_push_size _ rfl, hz⟩
  · have : ((rangeL a b c).length : Int) = Builtin.Range.rangeSize a b c := by unfold rangeL; simp; omega
    rw [this]
  · unfold rangeL at hi ⊢
    rw [List.length_map, List.length_range] at hi
    rw [List.getElem?_map, List.getElem?_range hi]; rfl
inductive RngA (it : It) (st st' : St) : List CV → Prop
  | one (b : Int) (hr : rOk 0 b 1 = true) (h : some (It.rng (rangeL 0 b 1), st) = some (it, st')) : RngA it st st' [.int b]
  | two (a b : Int) (hr : rOk a b 1 = true) (h : some (It.rng (rangeL a b 1), st) = some (it, st')) : RngA it st st' [.int a, .int b]
  | three (a b c : Int) (hr : rOk a b c = true) (h : some (It.rng (rangeL a b c), st) = some (it, st')) : RngA it st st' [.int a, .int b, .int c]
theorem rng_inv {vs : List CV} {it : It} {st st' : St} (h : (match vs with
    | [.int b] => if rOk 0 b 1 then rt (.rng (rangeL 0 b 1)) else no
    | [.int a, .int b] => if rOk a b 1 then rt (.rng (rangeL a b 1)) else no
    | [.int a, .int b, .int c] => if rOk a b c then rt (.rng (rangeL a b c)) else no
    | _ => no : M It) st = some (it, st')) : RngA it st st' vs := by
  cases vs with
  | nil => exact nope h
  | cons x r =>
    cases x with
    | int a =>
      cases r with
      | nil => obtain ⟨q, h⟩ := if_inv h; exact .one a q h
      | cons x r =>
        cases x with
        | int b =>
          cases r with
          | nil => obtain ⟨q, h⟩ := if_inv h; exact .two a b q h
          | cons x r =>
            cases x with
            | int c =>
              cases r with
              | nil => obtain ⟨q, h⟩ := if_inv h; exact .three a b c q h
              | cons _ _ => exact nope h
            | _ => exact nope h
        | _ => exact nope h
    | _ => exact nope h
theorem SI.range {cs : List CE} {es : List Expr} {x : Str} {np pos : Pos} (hb : BN T x (.type "range")) (ha : SEs T cs es) : SI T (.range cs) (.Call (.Name x np) es [] pos) := fun n C S ρ st st' s it I O h Q E hQ => by
  unfold evI at h
  replace h := bnd_some h
  obtain ⟨vs, st1, h1, h⟩ := h
  refine wpAny_Call_ofName (hb.load I O _ _ fun g ρ0 s0 e0 O0 p0 m0 => ?_)
  subst p0
  refine callW Kp.type ha C I O0 h1 fun us ρ1 s1 e1 O1 p1 m1 => ?_
  replace h := rng_inv h
  have hQ := fun v s' L H hI m2 => hQ v ρ1 s' L (e0.trans e1) H hI ((m0.trans m1).trans m2)
  cases h with
  | one b hr h =>
    (replace p1 := p1.one; obtain ⟨u, rfl, t, rfl⟩ := p1)
    cases h
    exact call_range_1 (range_end O1 hr (fun _ _ e => Heap.get?_push_of_some _ e) (by rw [Heap.size_push]; exact Nat.le_succ _) (Heap.get?_push_size _ rfl) hQ)
  | two a b hr h =>
    (replace p1 := p1.two; obtain ⟨u, u', rfl, ⟨t, rfl⟩, ⟨t', rfl⟩⟩ := p1)
    cases h
    exact call_range_2 (range_end O1 hr (fun _ _ e => Heap.get?_push_of_some _ e) (by rw [Heap.size_push]; exact Nat.le_succ _) (Heap.get?_push_size _ rfl) hQ)
  | three a b c hr h =>
    (replace p1 := p1.three; obtain ⟨u, u', u'', rfl, ⟨t, rfl⟩, ⟨t', rfl⟩, ⟨t'', rfl⟩⟩ := p1)
    cases h
    obtain ⟨q1, q2, q3, q4, q5⟩ := rOk_is hr
    exact call_range_3 q3 (range_end O1 hr (fun _ _ e => Heap.get?_push_of_some _ e) (by rw [Heap.size_push]; exact Nat.le_succ _) (Heap.get?_push_size _ rfl) hQ) (.inl (PyProof.noPylong_small (by omega)))
end
end Mine
end

section
set_option genSizeOf false
set_option genInjectivity false
namespace Mine

noncomputable def Sit.call (S : Sit) (h : Heap) (env : Env) (ks : Kinds) (cs : List Addr) : Sit :=
  { B := fun a o => S.B a o ∨ (a ∈ S.cs ∧ h.get? a = some o), env := env, ks := ks, cs := cs, A := S.A.deeper env, lo := S.lo, dep := S.dep - 1, fr := (S.env.locals, ((h.get? S.env.locals).map (·.data)).getD .plain) :: S.fr }

section
variable {W : Wd} {S : Sit} {ρ ρ' : Rho} {st st2 : St} {h h1 h2 : Heap} {env : Env} {ks : Kinds} {cs : List Addr}
theorem own_local (O : Ok W S ρ st h) {a : Addr} (ha : a ∈ S.env.locals :: S.cs) : a ∈ own S.env S.cs ρ st.lo := List.mem_append.mpr (.inl ha)
theorem Ok.enter (O : Ok W S ρ st h) (hd : st.dep ≠ 0) (kp : ∀ b o, h.get? b = some o → h1.get? b = some o) (hE : EnvOk env ks) (hfr : env.frame = some env.locals) (hL : h.objs.size ≤ env.locals) (hcs : ∀ c ∈ cs, env.locals < c) (hnd : cs.Nodup)
    {loc : List (Option CV)} {m : Str → Option Value} (hm : h1.Ns env.locals m) (hloc : ∀ (i : Nat) (x : Str) (cv : CV), ks[i]? = some (x, SK.loc) → loc[i]? = some (some cv) → ∃ v, m x = some v ∧ VRel ρ cv v)
    (hcel : ∀ (i : Nat) (x : Str), ks[i]? = some (x, SK.cell) → CelAt env cs ρ loc h1 i x)
    (hfre : ∀ (i : Nat) (x : Str), ks[i]? ≠ some (x, SK.free)) (hcin : ∀ c ∈ cs, ∃ u, h1.IsCell c u) :
    Ok W (S.call h1 env ks cs) ρ { loc := loc, heap := st.heap, lo := st.lo, dep := st.dep - 1 } h1 := by
  obtain ⟨o, es, ep, b1, b2, b3, b4⟩ := O.blt
  have nd := O.rel.nd
  unfold own at nd
  rw [List.nodup_append] at nd
  have fresh : ∀ a ∈ env.locals :: cs, h.objs.size ≤ a := fun a ha => by
    rcases List.mem_cons.mp ha with rfl | ha
    · exact hL
    · exact Nat.le_trans hL (Nat.le_of_lt (hcs a ha))
  have big : ∀ a ∈ env.locals :: cs, ∀ b ∈ own S.env S.cs ρ st.lo, a ≠ b := fun a ha b hb e => absurd (O.rel.lt hb) (Nat.not_lt.mpr (e ▸ fresh a ha))
  refine ⟨fun a o e => .inl (O.base a o e), ⟨o, es, ep, .inl b1, b2, b3, b4⟩, hE, O.top, ?_, O.lo, by show st.dep - 1 = S.dep - 1; rw [O.dep], ?_, ?_, ?_⟩
  rotate_left 2
  · intro p hp
    have hown : ∀ a, a ∉ own S.env S.cs ρ st.lo → a < h.objs.size → a ∉ own env cs ρ st.lo := fun a n l q => by
      rcases List.mem_append.mp q with q | q
      · exact absurd l (Nat.not_lt.mpr (fresh a q))
      · exact n (List.mem_append.mpr (.inr q))
    rcases List.mem_cons.mp hp with rfl | hp
    · obtain ⟨_, ⟨o, es, ep, ho, _⟩, _⟩ := O.rel.ns
      refine ⟨⟨o, kp _ _ ho, by rw [kp _ _ ho]; rfl⟩, fun q => ?_, fun o' q => ?_⟩
      · rcases List.mem_append.mp q with q | q
        · exact absurd (Heap.lt_size ho) (Nat.not_lt.mpr (fresh _ q))
        · exact nd.2.2 _ (.head _) _ q rfl
      · rcases q with q | q
        · exact O.rel.off _ (.head _) o' q
        · exact (List.nodup_cons.mp nd.1).1 q.1
    · obtain ⟨⟨o, ho, hd'⟩, n1, n2⟩ := O.frs p hp
      refine ⟨⟨o, kp _ _ ho, hd'⟩, hown _ n1 (Heap.lt_size ho), fun o' q => ?_⟩
      rcases q with q | q
      · exact n2 o' q
      · exact n1 (List.mem_append.mpr (.inl (.tail _ q.1)))
  · intro hd2
    obtain ⟨outer, f1, f2, f3⟩ := O.trk (Nat.lt_of_lt_of_le hd2 (Nat.sub_le _ _))
    refine ⟨S.env :: outer, by show S.A.frames.map (env :: ·) = _; rw [f1]; rfl, hfr, fun e he => ?_⟩
    rcases List.mem_cons.mp he with rfl | he
    · obtain ⟨_, ⟨o, es, ep, ho, hdd, _⟩, _⟩ := O.rel.ns
      exact ⟨by rw [O.env.kind]; decide, _, .head _, f2, es, ep, by show ((h1.get? S.env.locals).map (·.data)).getD .plain = _; rw [kp _ _ ho]; exact hdd⟩
    · obtain ⟨g1, p, hp, g2⟩ := f3 e he
      exact ⟨g1, p, .tail _ hp, g2⟩
  · have c := O.ctx
    have hd' : S.dep ≠ 0 := by rw [← O.dep]; exact hd
    refine ⟨fun _ => c.handled hd', ?_, ?_⟩
    · exact dep_sub c.depth hd' (Nat.le_refl 1)
    · exact units_sub c.units hd' (by decide)
  · refine ⟨?_, O.rel.len, O.rel.lo, ?_, ?_, ?_, ⟨m, hm, hloc⟩, hcel, fun i x e => absurd e (hfre i x), hcin, ?_, O.rel.big⟩
    · rintro b o (e | e)
      · exact kp _ _ (O.rel.base b o e)
      · exact e.2
    · intro k co as e1 e2
      obtain ⟨os, a1, a2⟩ := O.rel.obj k co as e1 e2
      refine ⟨os, ?_, a2⟩
      dsimp only at e1 ⊢
      split
      · rename_i q; rw [if_pos q] at a1; exact a1.mono fun a _ o e => .inl e
      · rename_i q; rw [if_neg q] at a1; exact a1.mono fun a _ o e => kp _ _ e
    · show (own env cs ρ st.lo).Nodup
      unfold own
      rw [List.nodup_append]
      refine ⟨?_, nd.2.1, fun a ha b hb => big a ha b (List.mem_append.mpr (.inr hb))⟩
      rw [List.nodup_cons]
      exact ⟨fun q => absurd (hcs _ q) (Nat.lt_irrefl _), hnd⟩
    · intro a ha o e
      have ha : a ∈ own env cs ρ st.lo := ha
      rcases List.mem_append.mp ha with ha | ha
      · rcases e with e | e
        · exact absurd (Heap.lt_size (O.rel.base _ _ e)) (Nat.not_lt.mpr (fresh a ha))
        · exact big a ha a (own_local O (.tail _ e.1)) rfl
      · rcases e with e | e
        · exact O.rel.off a (List.mem_append.mpr (.inr ha)) o e
        · exact nd.2.2 a (.tail _ e.1) a ha rfl
    · obtain ⟨o, e⟩ := O.rel.glob; exact ⟨o, .inl e⟩
theorem Ok.leave (O2 : Ok W (S.call h1 env ks cs) ρ' st2 h2) (O : Ok W S ρ st h) (hE : Ext ρ ρ') (kp : ∀ b o, h.get? b = some o → h1.get? b = some o) : Ok W S ρ' { st with heap := st2.heap } h2 := by
  have hlo : st2.lo = st.lo := by rw [O.lo]; exact O2.lo
  have nd2 := O2.rel.nd
  have nd := O.rel.nd
  unfold own at nd2 nd
  rw [List.nodup_append] at nd2 nd
  have still : ∀ a ∈ S.cs, ∀ o, h.get? a = some o → h2.get? a = some o := fun a ha o e => O2.rel.base a o (.inr ⟨ha, kp _ _ e⟩)
  have hloc := O2.frs _ (.head _)
  refine ⟨O.base, O.blt, O.env, O2.top, O.ctx, O.lo, O.dep, ?_, fun p hp => ?_, O.trk⟩
  rotate_left
  · obtain ⟨g1, g2, g3⟩ := O2.frs p (.tail _ hp)
    refine ⟨g1, fun q => ?_, (O.frs p hp).2.2⟩
    rcases List.mem_append.mp q with q | q
    · exact (O.frs p hp).2.1 (own_local O q)
    · exact g2 (List.mem_append.mpr (.inr (by rw [hlo]; exact q)))
  refine ⟨fun b o e => O2.rel.base b o (.inl e), O2.rel.len, by show st.lo ≤ st2.heap.length; rw [← hlo]; exact O2.rel.lo, ?_, ?_, ?_, ?_, ?_, ?_, ?_, O.rel.glob, O2.rel.big⟩
  · intro k co as e1 e2
    obtain ⟨os, a1, a2⟩ := O2.rel.obj k co as e1 e2
    refine ⟨os, ?_, a2⟩
    dsimp only at e1 ⊢
    split
    · rename_i q
      rw [if_pos (by rw [hlo]; exact q)] at a1
      have hk : k < st.heap.length := Nat.lt_of_lt_of_le q O.rel.lo
      have hk2 : k < ρ.length := by rw [O.rel.len]; exact hk
      have e3 := hE.get (List.getElem?_eq_getElem hk2)
      rw [e2] at e3
      cases e3
      obtain ⟨os0, c1, c2⟩ := O.rel.obj k _ _ (List.getElem?_eq_getElem hk) (List.getElem?_eq_getElem hk2)
      rw [if_pos q] at c1
      refine a1.mono fun a ha o e => ?_
      rcases e with e | e
      · exact e
      · obtain ⟨o', ho'⟩ := c1.mem a ha
        exact absurd ho' (O.rel.off a (own_local O (.tail _ e.1)) o')
    · rename_i q; rw [if_neg (by rw [hlo]; exact q)] at a1; exact a1
  · show (own S.env S.cs ρ' st.lo).Nodup
    unfold own
    rw [List.nodup_append]
    rw [hlo] at nd2
    refine ⟨nd.1, nd2.2.1, fun a ha b hb e => ?_⟩
    subst e
    rcases List.mem_cons.mp ha with q | q
    · exact hloc.2.1 (List.mem_append.mpr (.inr (by rw [hlo]; rw [q] at hb; exact hb)))
    · obtain ⟨u, o, ho, _⟩ := O.rel.cin a q
      exact O2.rel.off a (List.mem_append.mpr (.inr (by rw [hlo]; exact hb))) o (.inr ⟨q, kp _ _ ho⟩)
  · intro a ha o e
    have ha : a ∈ own S.env S.cs ρ' st.lo := ha
    rcases List.mem_append.mp ha with ha | ha
    · exact O.rel.off a (own_local O ha) o e
    · exact O2.rel.off a (List.mem_append.mpr (.inr (by rw [hlo]; exact ha))) o (.inl e)
  · obtain ⟨m, ⟨o, es, ep, ho, r'⟩, r⟩ := O.rel.ns
    obtain ⟨⟨o', ho', hd'⟩, _⟩ := hloc
    have hd' : o'.data = ((h1.get? S.env.locals).map (·.data)).getD .plain := hd'
    rw [kp _ _ ho] at hd'
    have hd' : o'.data = o.data := hd'
    exact ⟨m, ⟨o', es, ep, ho', hd'.trans r'.1, r'.2⟩, fun i x cv e1 e2 => let ⟨v, e3, e4⟩ := r i x cv e1 e2; ⟨v, e3, e4.mono hE⟩⟩
  · intro i x e
    obtain ⟨c, u, a1, a2, ⟨o, ho, hd⟩, a4⟩ := O.rel.cel i x e
    exact ⟨c, u, a1, a2, ⟨o, still _ a2 _ ho, hd⟩, fun cv e2 => let ⟨v, e3, e4⟩ := a4 cv e2; ⟨v, e3, e4.mono hE⟩⟩
  · intro i x e
    obtain ⟨c, o, u, a1, a2, a3, a4⟩ := O.rel.fre i x e
    exact ⟨c, o, u, a1, a2, a3, fun cv e2 => let ⟨v, e3, e4⟩ := a4 cv e2; ⟨v, e3, e4.mono hE⟩⟩
  · intro c hc
    obtain ⟨u, o, ho, hd⟩ := O.rel.cin c hc
    exact ⟨u, o, still _ hc _ ho, hd⟩

theorem bindL_other {kindOf : Str → Option NameKind} {x : Str} : ∀ {binds : List (Str × Value)} {m : Str → Option Value}, x ∉ binds.map (·.1) → bindL kindOf binds m x = m x
  | [], _, _ => rfl
  | (n, v) :: r, m, h => by
    simp only [List.map_cons, List.mem_cons, not_or] at h
    unfold bindL
    rw [bindL_other h.2]
    split
    · dsimp only; rw [if_neg h.1]
    · rfl
theorem bindL_get {kindOf : Str → Option NameKind} {x : Str} {v : Value} (hk : kindOf x = some .local) : ∀ {binds : List (Str × Value)} {m : Str → Option Value} {i : Nat}, (binds.map (·.1)).Nodup → binds[i]? = some (x, v) → bindL kindOf binds m x = some v
  | (n, u) :: r, m, 0, hn, e => by
    (first | exact nope e | cases e)
    simp only [List.map_cons, List.nodup_cons] at hn
    unfold bindL
    rw [bindL_other hn.1, if_pos hk]; simp
  | (n, u) :: r, m, i + 1, hn, e => by
    simp only [List.map_cons, List.nodup_cons] at hn
    unfold bindL
    exact bindL_get hk hn.2 (by simpa using e)
  | [], _, _, _, e => by simp at e
theorem bindC_other {kindOf : Str → Option NameKind} {x : Str} : ∀ {binds : List (Str × Value)} {m : Str → Option Value}, x ∉ binds.map (·.1) → bindC kindOf binds m x = m x
  | [], _, _ => rfl
  | (n, v) :: r, m, h => by
    simp only [List.map_cons, List.mem_cons, not_or] at h
    unfold bindC
    rw [bindC_other h.2]
    split
    · rfl
    · dsimp only; rw [if_neg h.1]
theorem bindC_get {kindOf : Str → Option NameKind} {x : Str} {v : Value} (hk : kindOf x ≠ some .local) : ∀ {binds : List (Str × Value)} {m : Str → Option Value} {i : Nat}, (binds.map (·.1)).Nodup → binds[i]? = some (x, v) → bindC kindOf binds m x = some v
  | (n, u) :: r, m, 0, hn, e => by
    (first | exact nope e | cases e)
    simp only [List.map_cons, List.nodup_cons] at hn
    unfold bindC
    rw [bindC_other hn.1, if_neg hk]; simp
  | (n, u) :: r, m, i + 1, hn, e => by
    simp only [List.map_cons, List.nodup_cons] at hn
    unfold bindC
    exact bindC_get hk hn.2 (by simpa using e)
  | [], _, _, _, e => by simp at e
end
end Mine
end

section
set_option genSizeOf false
set_option genInjectivity false
namespace Mine
noncomputable def ksOk (names : List (Str × NameKind)) (ks : Kinds) : Bool := ks.all fun p => match p.2 with
  | .loc => names.lookup p.1 == some .local
  | .cell => names.lookup p.1 == some .cell
  | .free => false
  | .out => true
noncomputable def Uniq (ks : Kinds) : Prop := ks.Pairwise fun a b => a.2 = .out ∨ b.2 = .out ∨ a.1 ≠ b.1
theorem Uniq.at {ks : Kinds} (h : Uniq ks) (i j : Nat) (x : Str) (k k' : SK) (e1 : ks[i]? = some (x, k)) (e2 : ks[j]? = some (x, k')) (h1 : k ≠ .out) (h2 : k' ≠ .out) : i = j := by
  have hi := (List.getElem?_eq_some_iff.mp e1)
  have hj := (List.getElem?_eq_some_iff.mp e2)
  obtain ⟨hi, ei⟩ := hi
  obtain ⟨hj, ej⟩ := hj
  have P := List.pairwise_iff_getElem.mp h
  rcases Nat.lt_trichotomy i j with q | q | q
  · rcases P i j hi hj q with r | r | r
    · rw [ei] at r; exact absurd r h1
    · rw [ej] at r; exact absurd r h2
    · rw [ei, ej] at r; exact absurd rfl r
  · exact q
  · rcases P j i hj hi q with r | r | r
    · rw [ej] at r; exact absurd r h2
    · rw [ei] at r; exact absurd r h1
    · rw [ei, ej] at r; exact absurd rfl r
theorem ksOk.get {names : List (Str × NameKind)} {ks : Kinds} (h : ksOk names ks = true) {i : Nat} {x : Str} {k : SK} (e : ks[i]? = some (x, k)) :
    (k = .loc → names.lookup x = some .local) ∧ (k = .cell → names.lookup x = some .cell) ∧ k ≠ .free := by
  unfold ksOk at h
  rw [List.all_eq_true] at h
  have := h _ (List.mem_of_getElem? e)
  cases k <;> simp_all
theorem cellsFrom_keep {x : Str} : ∀ {names : List (Str × NameKind)} {n : Nat} {acc : List (Str × Addr)}, (acc.lookup x).isSome = true → ((cellsFrom n names acc).lookup x).isSome = true
  | [], _, _, h => h
  | (name, kind) :: r, n, acc, h => by
    unfold cellsFrom
    split
    · refine cellsFrom_keep ?_
      rw [List.lookup_cons]
      split
      · rfl
      · exact h
    · exact cellsFrom_keep h
theorem cellsFrom_has {x : Str} : ∀ {names : List (Str × NameKind)} {n : Nat} {acc : List (Str × Addr)}, names.lookup x = some .cell → ((cellsFrom n names acc).lookup x).isSome = true
  | [], _, _, h => by cases h
  | (name, kind) :: r, n, acc, h => by
    rw [List.lookup_cons] at h
    unfold cellsFrom
    split at h
    · rename_i q
      (first | exact nope h | cases h)
      rw [if_pos (by rfl)]
      refine cellsFrom_keep ?_
      rw [List.lookup_cons, q]; rfl
    · split
      · exact cellsFrom_has h
      · exact cellsFrom_has h

noncomputable def bindOk (fn : Fn) (args : List CV) : Prop := (givenV fn args).length = fn.n ∧ (fn.va = true ∨ args.length ≤ fn.n) ∧ args.length ≤ 1000
noncomputable def Binds (W : Wd) (fd : FuncData) (fn : Fn) (ks : Kinds) : Prop := ∀ {S : Sit} {ρ : Rho} {st : St} {s : Shared} {args : List CV} {us : List Value} (A : Around) (Q : List (Str × Value) → Shared → Prop) (E : Value → Shared → Prop),
  Ok W S ρ st s.heap → VRels ρ args us → bindOk fn args →
  (∀ binds ρ' s', Ext ρ ρ' → Ok W S ρ' { st with heap := boundH fn args st } s'.heap → Same s s' → (∀ b o, s.heap.get? b = some o → s'.heap.get? b = some o) → (∀ (i : Nat) (x : Str), (binds.map (·.1))[i]? = some x → (ks.map (·.1))[i]? = some x ∧ (ks[i]?.map (·.2) = some SK.loc ∨ ks[i]?.map (·.2) = some SK.cell)) → (binds.map (·.1)).Nodup →
    VRels ρ' (boundV fn args st) (binds.map (·.2)) → Q binds s') → wpAny (model W.prog W.w) A (bindArgs fd ⟨us, []⟩) Q E s

structure FnReal (P : Prog) (W : Wd) (f : Addr) (fn : Fn) (o : Obj) (fd : FuncData) (body : List Stmt) (ks : Kinds) : Prop where
  here : W.K.lookup f = some o
  data : o.data = .func fd
  code : codeIn W.K fd.code fd.qualname = true
  bodyIs : fd.body = .stmts body
  clo : fd.closure = []
  glob : fd.globals = mainGlobals
  blt : fd.builtins = builtinsNs
  kind : fd.scope.kind = .function
  co : fd.scope.isCoroutine = false
  gen : fd.scope.isGenerator = false
  chk : ksOk fd.scope.names ks = true
  uniq : Uniq ks
  sound : SB ⟨P, W, fd.scope, ks⟩ fn.body body
  binds : Binds W fd fn ks

theorem get_replicate {α : Type} {n i : Nat} {a : α} (xs : List α) (h : (xs.map some ++ List.replicate n none)[i]? = some (some a)) : xs[i]? = some a := by
  by_cases q : i < xs.length
  · rw [List.getElem?_append_left (by simpa using q), List.getElem?_map] at h
    cases e : xs[i]? with
    | none => rw [e] at h; (first | exact nope h | cases h)
    | some b => rw [e] at h; (first | exact nope h | cases h); rfl
  · rw [List.getElem?_append_right (by simpa using q)] at h
    have := List.mem_of_getElem? h
    rw [List.mem_replicate] at this
    cases this.2
theorem call_sound {P : Prog} {W : Wd} (hlim : ∀ h, W.K.In h → h.NoLimit) (hall : ∀ f fn, P.fn f = some fn → ∃ o fd body ks, FnReal P W f fn o fd body ks) : ∀ n, CallAt P W n := by
  intro n
  induction n using Nat.strongRecOn with
  | ind n ih =>
    intro S ρ st st' s f args us v O h hv
    cases n with
    | zero => (first | exact nope h | cases h)
    | succ m =>
      have C : Calls P W m := fun j hj => ih j (by omega)
      have h : stepC P (run P m) f args st = some (v, st') := h
      unfold stepC at h
      cases q : P.fn f with
      | none => rw [q] at h; (first | exact nope h | cases h)
      | some fn =>
        rw [q] at h
        dsimp only at h
        (first | (replace h := if_inv h; obtain ⟨hc, h⟩ := h) | (replace h := if_inv2 h; obtain ⟨hc, h⟩ := h) | (split at h; rotate_left; (focus cases h); rename_i hc))
        · obtain ⟨o, fd, body, ks, F⟩ := hall f fn q
          intro Q E hQ
          refine codeAny_call_function O.ctx.room (O.rel.base _ _ (O.base _ _ F.here)) F.data F.co F.gen F.bodyIs (codeRec_of O.inK F.code) ?_
          refine F.binds _ _ _ O hv ⟨hc.1, hc.2.1, hc.2.2.2.2⟩ fun binds ρ1 s1 e1 O1 m1 hk1 hbn hbd hbv => ?_
          rw [F.clo]
          refine wpAny_newFunctionEnv_cells F.kind (fun x hx => ?_) fun env he s2 X => ?_
          · obtain ⟨i, hi⟩ := List.mem_iff_getElem?.mp hx
            obtain ⟨h1, h2⟩ := hbn i x.1 (by rw [List.getElem?_map, hi]; rfl)
            rw [List.getElem?_map] at h1
            cases q2 : ks[i]? with
            | none => rw [q2] at h1; (first | exact nope h1 | cases h1)
            | some p =>
              rw [q2] at h1 h2
              have h1 : p.1 = x.1 := by simpa using h1
              rw [← h1]
              obtain ⟨g1, g2, g3⟩ := ksOk.get F.chk (i := i) (x := p.1) (k := p.2) q2
              rcases h2 with h2 | h2
              · exact .inl (g1 (by simpa using h2))
              · exact .inr ⟨g2 (by simpa using h2), cellsFrom_has (g2 (by simpa using h2))⟩
          · obtain ⟨h2, tk, rfl⟩ := X.toInCall.same
            have kp := X.toInCall.keep
            subst he
            refine ⟨hlim _ (fun a o e => kp _ _ (O1.inK a o e)), codeAny_func ?_⟩
            have hEnv : EnvOk (newEnv fd.scope s1.heap.objs.size fd.globals (cellsFrom (s1.heap.objs.size + 1) fd.scope.names []) (fd.qualname ++ ".<locals>.") (some f) fd.code none fd.builtins) ks :=
              ⟨F.kind, F.glob, F.blt, fun i x e => (ksOk.get F.chk e).1 rfl, fun i x e => (ksOk.get F.chk e).2.1 rfl, fun i x e => absurd rfl (ksOk.get F.chk e).2.2, fun i j x k k' a b c d => F.uniq.at i j x k k' a b c d, X.apart⟩
            cases q3 : (run P m).b fn.body { loc := (boundV fn args st).map some ++ List.replicate (fn.ns - (boundV fn args st).length) none, heap := boundH fn args st, lo := st.lo, dep := st.dep - 1 } with
            | none => rw [q3] at h; (first | exact nope h | cases h)
            | some p =>
              obtain ⟨fl, st2⟩ := p
              rw [q3] at h
              have Oc := O1.enter (h1 := h2) (ks := ks) (cs := ((cellsFrom (s1.heap.objs.size + 1) fd.scope.names []).filter fun p => (cellsFrom (s1.heap.objs.size + 1) fd.scope.names []).lookup p.1 == some p.2).map (·.2)) (loc := (boundV fn args st).map some ++ List.replicate (fn.ns - (boundV fn args st).length) none) hc.2.2.1 kp hEnv rfl (Nat.le_refl _)
                (fun c hc' => by obtain ⟨p, hp, rfl⟩ := List.mem_map.mp hc'; exact X.above p.1 p.2 (List.mem_filter.mp hp).1) (List.pairwise_map.mpr (X.apart.filter _)) X.toInCall.ns ?_ ?_ (fun i x e => (ksOk.get F.chk e).2.2 rfl) ?_
              · refine F.sound m C (s := { s1 with heap := h2, toks := tk }) ⟨rfl, rfl⟩ Oc q3 _ _ fun fr ρ3 s3 e3 O3 p3 m3 => ?_
                have O4 := O3.leave O1 e3 kp
                have mm : Same s s3 := m1.trans (Same.trans Same.rfl m3)
                have sd : Stood S s.heap s3.heap := fun a ha o ho => by
                  have ho2 := kp _ _ (hk1 _ _ ho)
                  rcases List.mem_cons.mp ha with rfl | ha
                  · obtain ⟨o', ho', hd'⟩ := (O3.frs _ (.head _)).1
                    refine ⟨o', ho', hd'.trans ?_⟩
                    show ((h2.get? S.env.locals).map (·.data)).getD .plain = _
                    rw [ho2]; rfl
                  · exact ⟨o, O3.rel.base a o (.inr ⟨ha, ho2⟩), rfl⟩
                induction fl with
                | next => cases p3; (first | exact nope h | cases h); exact hQ _ _ _ (e1.trans e3) O4 rfl mm sd
                | ret u => obtain ⟨w, rfl, hw⟩ := p3; (first | exact nope h | cases h); exact hQ _ _ _ (e1.trans e3) O4 hw mm sd
                | brk => (first | exact nope h | cases h)
                | cont => (first | exact nope h | cases h)
              · intro i x cv e1 e2
                have e3 := get_replicate _ e2
                obtain ⟨u, e4, e5⟩ := hbv.get e3
                rw [List.getElem?_map] at e4
                cases q4 : binds[i]? with
                | none => rw [q4] at e4; (first | exact nope e4 | cases e4)
                | some b =>
                  rw [q4] at e4
                  (first | exact nope e4 | cases e4)
                  obtain ⟨g1, g2⟩ := hbn i b.1 (by rw [List.getElem?_map, q4]; rfl)
                  rw [List.getElem?_map, e1] at g1
                  (first | exact nope g1 | cases g1)
                  exact ⟨b.2, bindL_get ((ksOk.get F.chk e1).1 rfl) hbd (i := i) q4, e5⟩
              · intro i x e1
                have hx := (ksOk.get F.chk e1).2.1 rfl
                obtain ⟨c, hcl⟩ := Option.isSome_iff_exists.mp (cellsFrom_has (n := s1.heap.objs.size + 1) (acc := []) hx)
                refine ⟨c, _, hcl, List.mem_map.mpr ⟨(x, c), List.mem_filter.mpr ⟨mem_of_lookup hcl, by dsimp only; rw [hcl]; exact beq_self_eq_true _⟩, rfl⟩, X.cell x c hcl, fun cv e2 => ?_⟩
                have e3 := get_replicate _ e2
                obtain ⟨u, e4, e5⟩ := hbv.get e3
                rw [List.getElem?_map] at e4
                cases q4 : binds[i]? with
                | none => rw [q4] at e4; (first | exact nope e4 | cases e4)
                | some b =>
                  rw [q4] at e4
                  (first | exact nope e4 | cases e4)
                  obtain ⟨g1, g2⟩ := hbn i b.1 (by rw [List.getElem?_map, q4]; rfl)
                  rw [List.getElem?_map, e1] at g1
                  (first | exact nope g1 | cases g1)
                  refine ⟨b.2, bindC_get ?_ hbd (i := i) q4, e5⟩
                  intro e
                  have e' : fd.scope.names.lookup b.1 = some .local := e
                  rw [hx] at e'; cases e'
              · intro c hc'
                obtain ⟨p, hp, rfl⟩ := List.mem_map.mp hc'
                exact ⟨_, X.cell p.1 p.2 (beq_iff_eq.mp (List.mem_filter.mp hp).2)⟩
end Mine
end

section
set_option genSizeOf false
set_option genInjectivity false
namespace Mine
noncomputable def Sit.freeze (S : Sit) (h : Heap) (n : Nat) : Sit := { S with B := fun a o => h.get? a = some o ∧ a ∉ S.env.locals :: S.cs ∧ a ∉ S.fr.map (·.1), lo := n }
section
variable {W : Wd} {S : Sit} {ρ ρ' : Rho} {st st2 : St} {h h1 h2 : Heap}
theorem Ok.still (O : Ok W S ρ st h) {a : Addr} {o : Obj} (e : S.B a o) : (S.freeze h st.heap.length).B a o := ⟨O.rel.base _ _ e, fun q => O.rel.off a (own_local O q) o e, O.frB e⟩
theorem Ok.objStill (O : Ok W S ρ st h) {k : Nat} {co : CO} {as : List Addr} (e1 : st.heap[k]? = some co) (e2 : ρ[k]? = some as) : ∀ a ∈ as, a ∉ S.env.locals :: S.cs ∧ a ∉ S.fr.map (·.1) := by
  intro a ha
  obtain ⟨os, a1, a2⟩ := O.rel.obj k co as e1 e2
  by_cases hk : k < st.lo
  · rw [if_pos hk] at a1
    obtain ⟨o, ho⟩ := a1.mem a ha
    exact ⟨fun q => O.rel.off a (own_local O q) o ho, O.frB ho⟩
  · have nd := O.rel.nd
    unfold own at nd
    rw [List.nodup_append] at nd
    exact ⟨fun q => nd.2.2 a q a (mem_own_obj e2 (Nat.le_of_not_lt hk) ha) rfl, O.frOwn (List.mem_append.mpr (.inr (mem_own_obj e2 (Nat.le_of_not_lt hk) ha)))⟩
theorem Ok.freeze (O : Ok W S ρ st h) : Ok W (S.freeze h st.heap.length) ρ { st with lo := st.heap.length } h := by
  obtain ⟨o, es, ep, b1, b2, b3, b4⟩ := O.blt
  have nd := O.rel.nd
  unfold own at nd
  rw [List.nodup_append] at nd
  have dr : ρ.drop st.heap.length = [] := by rw [← O.rel.len]; exact List.drop_length ..
  refine ⟨fun a o e => O.still (O.base a o e), ⟨o, es, ep, O.still b1, b2, b3, b4⟩, O.env, O.top, O.ctx, rfl, O.dep, ?_, fun p hp => ⟨(O.frs p hp).1, fun q => (O.frs p hp).2.1 (own_local O (by
    have q : p.1 ∈ own S.env S.cs ρ st.heap.length := q
    unfold own at q
    rw [dr, List.flatten_nil, List.append_nil] at q; exact q)), fun o q => q.2.2 (List.mem_map.mpr ⟨p, hp, rfl⟩)⟩, O.trk⟩
  refine ⟨fun b o e => e.1, O.rel.len, Nat.le_refl _, ?_, ?_, ?_, O.rel.ns, O.rel.cel, ?_, O.rel.cin, ?_, O.rel.big⟩
  · intro k co as e1 e2
    obtain ⟨as', os, g1, g2, g3⟩ := O.rel.at e1
    rw [e2] at g1; cases g1
    refine ⟨os, ?_, g3⟩
    rw [if_pos (by exact (List.getElem?_eq_some_iff.mp e1).1)]
    exact g2.mono fun a ha o e => ⟨e, O.objStill e1 e2 a ha⟩
  · show (own S.env S.cs ρ st.heap.length).Nodup
    unfold own
    rw [dr, List.flatten_nil, List.append_nil]; exact nd.1
  · intro a ha o e
    have ha : a ∈ own S.env S.cs ρ st.heap.length := ha
    unfold own at ha
    rw [dr, List.flatten_nil, List.append_nil] at ha
    exact e.2.1 ha
  · intro i x e
    obtain ⟨c, o, u, a1, a2, a3, a4⟩ := O.rel.fre i x e
    exact ⟨c, o, u, a1, O.still a2, a3, a4⟩
  · obtain ⟨o, e⟩ := O.rel.glob; exact ⟨o, O.still e⟩
theorem VRel.back (hE : Ext ρ ρ') {c : CV} {v v0 : Value} (h0 : VRel ρ c v0) (h : VRel ρ' c v) : VRel ρ c v := by
  induction c with
  | ref k =>
    obtain ⟨a, as, e1, e2⟩ := h0
    obtain ⟨b, bs, e3, e4⟩ := h
    have := hE.get e1
    rw [e3] at this
    cases this
    exact ⟨a, as, e1, e4⟩
  | _ => exact h
theorem VRel.low (hE : Ext ρ ρ') {c : CV} {v : Value} (hu : under ρ.length c = true) (h : VRel ρ' c v) : VRel ρ c v := by
  induction c with
  | ref k =>
    obtain ⟨b, bs, e3, e4⟩ := h
    have hk : k < ρ.length := by simpa [under] using hu
    have := hE.get (List.getElem?_eq_getElem hk)
    rw [e3] at this
    exact ⟨b, bs, by rw [List.getElem?_eq_getElem hk, this], e4⟩
  | _ => exact h
theorem Ok.thaw (O2 : Ok W (S.freeze h st.heap.length) ρ' st2 h2) (O : Ok W S ρ st h) (hE : Ext ρ ρ') (hl : st2.loc = st.loc) : Ok W S ρ st h2 := by
  have kp : ∀ b o, (b ∉ S.env.locals :: S.cs ∧ b ∉ S.fr.map (·.1)) → h.get? b = some o → h2.get? b = some o := fun b o n e => O2.rel.base b o ⟨e, n⟩
  refine ⟨O.base, O.blt, O.env, O.top, O.ctx, O.lo, O.dep, ?_, fun p hp => ⟨(O2.frs p hp).1, (O.frs p hp).2.1, (O.frs p hp).2.2⟩, O.trk⟩
  refine ⟨fun b o e => O2.rel.base b o (O.still e), O.rel.len, O.rel.lo, ?_, O.rel.nd, O.rel.off, ?_, ?_, O.rel.fre, ?_, O.rel.glob, O.rel.big⟩
  · intro k co as e1 e2
    obtain ⟨os, a1, a2⟩ := O.rel.obj k co as e1 e2
    refine ⟨os, ?_, a2⟩
    split
    · rename_i q; rw [if_pos q] at a1; exact a1
    · rename_i q; rw [if_neg q] at a1
      exact a1.mono fun a ha o e => kp a o (O.objStill e1 e2 a ha) e
  · obtain ⟨m, n, r⟩ := O2.rel.ns
    obtain ⟨m0, n0, r0⟩ := O.rel.ns
    refine ⟨m, n, fun i x cv e1 e2 => ?_⟩
    obtain ⟨v, e3, e4⟩ := r i x cv e1 (by rw [hl]; exact e2)
    obtain ⟨v0, _, e6⟩ := r0 i x cv e1 e2
    exact ⟨v, e3, VRel.back hE e6 e4⟩
  · intro i x e
    obtain ⟨c, u, a1, a2, a3, a4⟩ := O2.rel.cel i x e
    obtain ⟨c0, u0, b1, b2, b3, b4⟩ := O.rel.cel i x e
    refine ⟨c, u, a1, a2, a3, fun cv e2 => ?_⟩
    obtain ⟨v, e3, e4⟩ := a4 cv (by rw [hl]; exact e2)
    obtain ⟨v0, _, e6⟩ := b4 cv e2
    exact ⟨v, e3, VRel.back hE e6 e4⟩
  · exact O2.rel.cin
theorem Rel.adopt {prog : Program} {w : World} {B : Bs} {env : Env} {ks : Kinds} {cs : List Addr} (R : Rel prog w B env ks cs ρ st h) {as : List Addr} {os : List Obj} {co : CO}
    (hf : ∀ a ∈ as, a ∉ own env cs ρ st.lo ∧ (∀ o, ¬ B a o) ∧ 3 < a) (hn : as.Nodup) (hh : Has (At h) as os) (hs : Shape prog w (ρ ++ [as]) as os co) :
    Rel prog w B env ks cs (ρ ++ [as]) { st with heap := st.heap ++ [co] } h := by
  have hE : Ext ρ (ρ ++ [as]) := ⟨[as], rfl⟩
  have hlo : st.lo ≤ ρ.length := by rw [R.len]; exact R.lo
  have ho := own_more (env := env) (cs := cs) hlo as
  refine ⟨R.base, by simp [R.len], by simp; exact Nat.le_succ_of_le R.lo, ?_, ?_, ?_, ?_, ?_, ?_, R.cin, R.glob, ?_⟩
  · intro i co' as' e1 e2
    dsimp only at e1 ⊢
    by_cases hi : i < st.heap.length
    · rw [List.getElem?_append_left hi] at e1
      rw [List.getElem?_append_left (by rw [R.len]; exact hi)] at e2
      obtain ⟨os', a1, a2⟩ := R.obj i co' as' e1 e2
      exact ⟨os', a1, a2.mono hE⟩
    · have hi' : st.heap.length ≤ i := Nat.le_of_not_lt hi
      rw [List.getElem?_append_right hi'] at e1
      rw [List.getElem?_append_right (by rw [R.len]; exact hi')] at e2
      have h0 : i - st.heap.length = 0 := by
        cases q : i - st.heap.length with
        | zero => rfl
        | succ n => rw [q] at e1; simp at e1
      have h1 : i - ρ.length = 0 := by rw [R.len]; exact h0
      rw [h0] at e1; rw [h1] at e2
      simp at e1 e2
      subst e1; subst e2
      refine ⟨os, ?_, hs⟩
      rw [if_neg (by have := R.lo; omega)]
      exact hh
  · show (own env cs (ρ ++ [as]) st.lo).Nodup
    rw [ho, List.nodup_append]
    exact ⟨R.nd, hn, fun a ha b hb e => (hf b hb).1 (e ▸ ha)⟩
  · intro a ha o hB
    change a ∈ own env cs (ρ ++ [as]) st.lo at ha
    rw [ho] at ha
    rcases List.mem_append.mp ha with ha | ha
    · exact R.off a ha o hB
    · exact (hf a ha).2.1 o hB
  · obtain ⟨m, n, r⟩ := R.ns
    exact ⟨m, n, fun i x cv e1 e2 => let ⟨v, e3, e4⟩ := r i x cv e1 e2; ⟨v, e3, e4.mono hE⟩⟩
  · intro i x e
    obtain ⟨c, u, a1, a2, a3, a4⟩ := R.cel i x e
    exact ⟨c, u, a1, a2, a3, fun cv e2 => let ⟨v, e3, e4⟩ := a4 cv e2; ⟨v, e3, e4.mono hE⟩⟩
  · intro i x e
    obtain ⟨c, o, u, a1, a2, a3, a4⟩ := R.fre i x e
    exact ⟨c, o, u, a1, a2, a3, fun cv e2 => let ⟨v, e3, e4⟩ := a4 cv e2; ⟨v, e3, e4.mono hE⟩⟩
  · intro i ai e a ha
    by_cases hi : i < ρ.length
    · rw [List.getElem?_append_left hi] at e
      exact R.big i ai e a ha
    · rw [List.getElem?_append_right (Nat.le_of_not_lt hi)] at e
      have := List.mem_of_getElem? e
      rw [List.mem_singleton] at this
      subst this
      exact (hf a ha).2.2
theorem VRels.low (hE : Ext ρ ρ') : ∀ {cs : List CV} {vs : List Value}, cs.all (under ρ.length) = true → VRels ρ' cs vs → VRels ρ cs vs
  | [], [], _, _ => trivial
  | c :: cs, v :: vs, hu, ⟨h, r⟩ => by
    rw [List.all_cons, Bool.and_eq_true] at hu
    exact ⟨VRel.low hE hu.1 h, VRels.low hE hu.2 r⟩
  | [], _ :: _, _, h => h.elim
  | _ :: _, [], _, h => h.elim
theorem KVRel.low {K : Type} (hE : Ext ρ ρ') : ∀ {cs : List (K × CV)} {vs : List (K × Value)}, (cs.all fun e => under ρ.length e.2) = true → KVRel ρ' cs vs → KVRel ρ cs vs
  | [], [], _, _ => trivial
  | c :: cs, v :: vs, hu, ⟨h, h', r⟩ => by
    rw [List.all_cons, Bool.and_eq_true] at hu
    exact ⟨h, VRel.low hE hu.1 h', KVRel.low hE hu.2 r⟩
  | [], _ :: _, _, h => h.elim
  | _ :: _, [], _, h => h.elim
theorem Shape.low {prog : Program} {w : World} (hE : Ext ρ ρ') {as : List Addr} {os : List Obj} {co : CO} (hf : flat ρ.length co = true) (h : Shape prog w ρ' as os co) : Shape prog w ρ as os co := by
  induction co with
  | list _ => exact let ⟨x, vs, n, h, e, r⟩ := h; ⟨x, vs, n, h, e, VRels.low hE hf r⟩
  | tuple _ => exact let ⟨x, vs, n, h, e, r⟩ := h; ⟨x, vs, n, h, e, VRels.low hE hf r⟩
  | dictS _ _ => exact let ⟨x, o, res, kvs, rep, h0, h1, h2, h3, h4, h5, h6, h7, r⟩ := h; ⟨x, o, res, kvs, rep, h0, h1, h2, h3, h4, h5, h6, h7, KVRel.low hE hf r⟩
  | dictI _ _ => exact let ⟨x, o, res, kvs, rep, h0, h1, h2, h3, h4, h5, h6, h7, r⟩ := h; ⟨x, o, res, kvs, rep, h0, h1, h2, h3, h4, h5, h6, h7, KVRel.low hE hf r⟩
  | _ => exact Bool.noConfusion hf
theorem Ok.answer (O2 : Ok W (S.freeze h st.heap.length) ρ' st2 h2) (O : Ok W S ρ st h) (hE : Ext ρ ρ') (hl : st2.loc = st.loc) {k : Nat} {co : CO} {u : Value} (hk : st.heap.length ≤ k) (hc : st2.heap[k]? = some co) (hf : flat st.heap.length co = true) (hu : VRel ρ' (.ref k) u) :
    ∃ as, Ok W S (ρ ++ [as]) { st with heap := st.heap ++ [co] } h2 ∧ VRel (ρ ++ [as]) (.ref st.heap.length) u := by
  obtain ⟨as, os, e1, e2, e3⟩ := O2.rel.at hc
  obtain ⟨a, as', e4, rfl⟩ := hu
  rw [e1] at e4; cases e4
  refine ⟨a :: as', ?_, a, as', ?_, rfl⟩
  · have T := O2.thaw O hE hl
    have hin : ∀ b ∈ a :: as', b ∈ own S.env S.cs ρ' st2.lo := fun b hb => List.mem_append.mpr (.inr (mem_own_obj e1 (by rw [O2.lo]; exact hk) hb))
    refine ⟨T.base, T.blt, T.env, fun i b e => Ext.get ⟨_, rfl⟩ (T.top i b e), T.ctx, T.lo, T.dep, T.rel.adopt (os := os) (fun b hb => ⟨fun q => ?_, fun o q => ?_, O2.rel.big k _ e1 b hb⟩) ?_ e2 ?_, fun p hp => ?_, T.trk⟩
    rotate_right
    · refine (T.frs p hp).to (fun o e => e) fun q => ?_
      have q : p.1 ∈ own S.env S.cs (ρ ++ [a :: as']) st.lo := q
      rw [own_more (by rw [O.rel.len]; exact O.rel.lo)] at q
      rcases List.mem_append.mp q with q | q
      · exact (T.frs p hp).2.1 q
      · exact (O2.frs p hp).2.1 (hin _ q)
    · have nd := O2.rel.nd
      unfold own at nd
      rw [List.nodup_append] at nd
      rcases List.mem_append.mp q with q | q
      · exact nd.2.2 b q b (mem_own_obj e1 (by rw [O2.lo]; exact hk) hb) rfl
      · obtain ⟨bs, hbs, hb'⟩ := List.mem_flatten.mp q
        obtain ⟨i, hi⟩ := List.mem_iff_getElem?.mp hbs
        rw [List.getElem?_drop] at hi
        have hik : st.lo + i < st.heap.length := by rw [← O.rel.len]; exact (List.getElem?_eq_some_iff.mp hi).1
        obtain ⟨bs', os', g1, g2, g3⟩ := O.rel.at (List.getElem?_eq_getElem hik)
        rw [hi] at g1; cases g1
        obtain ⟨o', ho'⟩ := g2.mem b hb'
        exact O2.rel.off b (hin b hb) o' ⟨ho', O.objStill (List.getElem?_eq_getElem hik) hi b hb'⟩
    · exact O2.rel.off b (hin b hb) o (O.still q)
    · have nd := O2.rel.nd
      unfold own at nd
      rw [List.nodup_append] at nd
      refine List.Nodup.sublist ?_ nd.2.1
      obtain ⟨hk1, hk2⟩ := List.getElem?_eq_some_iff.mp e1
      have hlo : st2.lo ≤ k := by rw [O2.lo]; exact hk
      have : ρ'[k] ∈ ρ'.drop st2.lo := List.mem_iff_getElem?.mpr ⟨k - st2.lo, by rw [List.getElem?_drop, show st2.lo + (k - st2.lo) = k by omega]; exact List.getElem?_eq_getElem hk1⟩
      rw [← hk2]
      exact List.sublist_flatten_of_mem this
    · rw [← O.rel.len] at hf
      exact (Shape.low hE hf e3).mono ⟨_, rfl⟩
  · rw [← O.rel.len, List.getElem?_append_right (Nat.le_refl _)]; simp
end
end Mine
end

section
set_option genSizeOf false
set_option genInjectivity false
namespace Mine
theorem run_c_loc {P : Prog} {n : Nat} {f : Addr} {args : List CV} {st st' : St} {v : CV} (h : (run P n).c f args st = some (v, st')) : st'.loc = st.loc := by
  cases n with
  | zero => (first | exact nope h | cases h)
  | succ m =>
    have h : stepC P (run P m) f args st = some (v, st') := h
    unfold stepC at h
    cases q : P.fn f with
    | none => rw [q] at h; (first | exact nope h | cases h)
    | some fn =>
      rw [q] at h
      dsimp only at h
      (first | (replace h := if_inv h; obtain ⟨_, h⟩ := h) | (replace h := if_inv2 h; obtain ⟨_, h⟩ := h) | (split at h; rotate_left; (focus cases h)))
      · cases q3 : (run P m).b fn.body { loc := (boundV fn args st).map some ++ List.replicate (fn.ns - (boundV fn args st).length) none, heap := boundH fn args st, lo := st.lo, dep := st.dep - 1 } with
        | none => rw [q3] at h; (first | exact nope h | cases h)
        | some p =>
          obtain ⟨fl, st2⟩ := p
          rw [q3] at h
          cases fl <;> first | (cases h; rfl) | cases h
theorem frozen_sound {P : Prog} {W : Wd} {m : Nat} (C : CallAt P W m) {S : Sit} {ρ : Rho} {st st' : St} {s : Shared} {f : Addr} {args : List CV} {us : List Value} {v : CV} (O : Ok W S ρ st s.heap) (h : frozen ((run P m).c f args) st = some (v, st')) (hv : VRels ρ args us) :
    Does W S ρ s (call (.ref f) us) st' (fun ρ' r => VRel ρ' v r) := by
  unfold frozen at h
  dsimp only at h
  cases q : (run P m).c f args { st with lo := st.heap.length } with
  | none => rw [q] at h; (first | exact nope h | cases h)
  | some p =>
    obtain ⟨w, st2⟩ := p
    rw [q] at h
    have hl : st2.loc = st.loc := (run_c_loc q).trans rfl
    intro Q E hQ
    refine wpAny_call (C O.freeze q hv Q E fun u ρ2 s2 e2 O2 p2 m2 _ => ?_)
    have low : ∀ {x : CV}, under st.heap.length x = true → some (x, st) = some (v, st') → x = w → Q u s2 := fun {x} hu e hx => by
      (first | exact nope e | cases e)
      subst hx
      exact hQ _ _ _ (Ext.refl _) (O2.thaw O e2 hl) (VRel.low e2 (by rw [O.rel.len]; exact hu) p2) m2
    induction w with
    | ref k =>
      dsimp only at h
      split at h
      · rename_i hk
        exact low (by simpa [under] using hk) h rfl
      · rename_i hk
        cases q2 : st2.heap[k]? with
        | none => rw [q2] at h; (first | exact nope h | cases h)
        | some co =>
          rw [q2] at h
          dsimp only at h
          (first | (replace h := if_inv h; obtain ⟨hf, h⟩ := h) | (replace h := if_inv2 h; obtain ⟨hf, h⟩ := h) | (split at h; rotate_left; (focus cases h); rename_i hf))
          · (first | exact nope h | cases h)
            obtain ⟨as, O3, hv3⟩ := O2.answer O e2 hl (Nat.le_of_not_lt hk) q2 hf p2
            exact hQ _ _ _ ⟨[as], rfl⟩ O3 hv3 m2
    | none => exact low rfl h rfl
    | bool b => exact low rfl h rfl
    | int b => exact low rfl h rfl
    | str b => exact low rfl h rfl
    | lit b => exact low rfl h rfl
noncomputable def rhoC (ρ : Rho) (T : Nat) (ks : List Nat) : Rho := ρ.take T ++ ks.map fun k => (ρ[k]?).getD []
section
variable {prog : Program} {w : World} {ρ : Rho} {H : List CO} {h : Heap} {T : Nat}
theorem rhoC_low {ks : List Nat} (hT : T ≤ ρ.length) {k : Nat} (hk : k < T) : (rhoC ρ T ks)[k]? = ρ[k]? := by
  unfold rhoC
  rw [List.getElem?_append_left (by rw [List.length_take]; omega), List.getElem?_take_of_lt hk]
theorem rhoC_new {ks : List Nat} (hT : T ≤ ρ.length) (j : Nat) : (rhoC ρ T ks)[T + j]? = ks[j]?.map fun k => (ρ[k]?).getD [] := by
  unfold rhoC
  rw [List.getElem?_append_right (by rw [List.length_take]; omega), List.length_take, Nat.min_eq_left hT, Nat.add_sub_cancel_left, List.getElem?_map]
theorem rhoC_ext (ks ls : List Nat) : Ext (rhoC ρ T ks) (rhoC ρ T (ks ++ ls)) := ⟨ls.map fun k => (ρ[k]?).getD [], by unfold rhoC; rw [List.map_append, List.append_assoc]⟩
structure CpOk (prog : Program) (w : World) (ρ : Rho) (H : List CO) (h : Heap) (T : Nat) (a : Cp) : Prop where
  len : a.1.length = a.2.length
  obj : ∀ (j : Nat) (co : CO) (k : Nat), a.1[j]? = some co → a.2[j]? = some k → ∃ as os co0, H[k]? = some co0 ∧ ρ[k]? = some as ∧ Has (At h) as os ∧ Shape prog w (rhoC ρ T a.2) as os co
noncomputable def Pre (a a' : Cp) : Prop := ∃ ls, a'.2 = a.2 ++ ls
theorem Pre.refl (a : Cp) : Pre a a := ⟨[], by simp⟩
theorem Pre.trans {a b c : Cp} (x : Pre a b) (y : Pre b c) : Pre a c := by
  obtain ⟨l, e⟩ := x; obtain ⟨m, f⟩ := y; exact ⟨l ++ m, by rw [f, e, List.append_assoc]⟩
theorem Pre.ext {a a' : Cp} (x : Pre a a') : Ext (rhoC ρ T a.2) (rhoC ρ T a'.2) := by obtain ⟨l, e⟩ := x; rw [e]; exact rhoC_ext _ _
noncomputable def CpF (prog : Program) (w : World) (ρ : Rho) (H : List CO) (h : Heap) (T : Nat) (f : CV → Cp → Option (CV × Cp)) : Prop := ∀ v a v' a', f v a = some (v', a') → CpOk prog w ρ H h T a → CpOk prog w ρ H h T a' ∧ Pre a a' ∧ ∀ u, VRel ρ v u → VRel (rhoC ρ T a'.2) v' u
theorem cpL_ok {f : CV → Cp → Option (CV × Cp)} (F : CpF prog w ρ H h T f) : ∀ xs a xs' a', cpL f xs a = some (xs', a') → CpOk prog w ρ H h T a → CpOk prog w ρ H h T a' ∧ Pre a a' ∧ ∀ us, VRels ρ xs us → VRels (rhoC ρ T a'.2) xs' us
  | [], a, xs', a', e, O => by cases e; exact ⟨O, .refl _, fun us h => by cases us with | nil => trivial | cons => exact h.elim⟩
  | v :: r, a, xs', a', e, O => by
    unfold cpL at e
    split at e
    · (first | exact nope e | cases e)
    · rename_i v1 a1 q1
      split at e
      · (first | exact nope e | cases e)
      · rename_i r2 a2 q2
        (first | exact nope e | cases e)
        obtain ⟨O1, p1, f1⟩ := F _ _ _ _ q1 O
        obtain ⟨O2, p2, f2⟩ := cpL_ok F _ _ _ _ q2 O1
        refine ⟨O2, p1.trans p2, fun us h => ?_⟩
        cases us with
        | nil => exact h.elim
        | cons u us => exact ⟨(f1 u h.1).mono p2.ext, f2 us h.2⟩
theorem cpK_ok {K : Type} {f : CV → Cp → Option (CV × Cp)} (F : CpF prog w ρ H h T f) : ∀ (xs : List (K × CV)) a xs' a', cpK f xs a = some (xs', a') → CpOk prog w ρ H h T a → CpOk prog w ρ H h T a' ∧ Pre a a' ∧ ∀ us, KVRel ρ xs us → KVRel (rhoC ρ T a'.2) xs' us
  | [], a, xs', a', e, O => by cases e; exact ⟨O, .refl _, fun us h => by cases us with | nil => trivial | cons => exact h.elim⟩
  | v :: r, a, xs', a', e, O => by
    unfold cpK at e
    split at e
    · (first | exact nope e | cases e)
    · rename_i v1 a1 q1
      split at e
      · (first | exact nope e | cases e)
      · rename_i r2 a2 q2
        (first | exact nope e | cases e)
        obtain ⟨O1, p1, f1⟩ := F _ _ _ _ q1 O
        obtain ⟨O2, p2, f2⟩ := cpK_ok F _ _ _ _ q2 O1
        refine ⟨O2, p1.trans p2, fun us h => ?_⟩
        cases us with
        | nil => exact h.elim
        | cons u us => exact ⟨h.1, (f1 _ h.2.1).mono p2.ext, f2 us h.2.2⟩
inductive cpO_okR (o : CO) (o' : CO) (a : Cp) (a' : Cp) : Prop
  | intro (f1 : CpOk prog w ρ H h T a') (f2 : Pre a a') (f3 : ∀ as os, Shape prog w ρ as os o → Shape prog w (rhoC ρ T a'.2) as os o')
theorem cpO_ok {f : CV → Cp → Option (CV × Cp)} (F : CpF prog w ρ H h T f) {o o' : CO} {a a' : Cp} (e : cpO f o a = some (o', a')) (O : CpOk prog w ρ H h T a) : cpO_okR (prog := prog) (w := w) (ρ := ρ) (H := H) (h := h) (T := T) o o' a a' := by
  induction o with
  | list xs =>
    obtain ⟨⟨p, a1⟩, e1, e2⟩ := Option.map_eq_some_iff.mp e
    cases e2
    obtain ⟨O1, p1, f1⟩ := cpL_ok F _ _ _ _ e1 O
    exact ⟨O1, p1, fun as os ⟨x, vs, n, h, e, r⟩ => ⟨x, vs, n, h, e, f1 _ r⟩⟩
  | tuple xs =>
    obtain ⟨⟨p, a1⟩, e1, e2⟩ := Option.map_eq_some_iff.mp e
    cases e2
    obtain ⟨O1, p1, f1⟩ := cpL_ok F _ _ _ _ e1 O
    exact ⟨O1, p1, fun as os ⟨x, vs, n, h, e, r⟩ => ⟨x, vs, n, h, e, f1 _ r⟩⟩
  | dictS es ep =>
    obtain ⟨⟨p, a1⟩, e1, e2⟩ := Option.map_eq_some_iff.mp e
    cases e2
    obtain ⟨O1, p1, f1⟩ := cpK_ok F _ _ _ _ e1 O
    exact ⟨O1, p1, fun as os ⟨x, o, res, kvs, rep, h0, h1, h2, h3, h4, h5, h6, h7, r⟩ => ⟨x, o, res, kvs, rep, h0, h1, h2, h3, h4, h5, h6, h7, f1 _ r⟩⟩
  | dictI es ep =>
    obtain ⟨⟨p, a1⟩, e1, e2⟩ := Option.map_eq_some_iff.mp e
    cases e2
    obtain ⟨O1, p1, f1⟩ := cpK_ok F _ _ _ _ e1 O
    exact ⟨O1, p1, fun as os ⟨x, o, res, kvs, rep, h0, h1, h2, h3, h4, h5, h6, h7, r⟩ => ⟨x, o, res, kvs, rep, h0, h1, h2, h3, h4, h5, h6, h7, f1 _ r⟩⟩
  | _ => (first | exact nope e | cases e)
theorem cpRef {a : Cp} (hT : T ≤ ρ.length) {k : Nat} (hk : k < T) : ∀ u, VRel ρ (.ref k) u → VRel (rhoC ρ T a.2) (.ref k) u := fun u ⟨b, bs, e, q⟩ => ⟨b, bs, by rw [rhoC_low hT hk]; exact e, q⟩
theorem cpV_ok (hT : T ≤ ρ.length) (R : ∀ (k : Nat) (co : CO), H[k]? = some co → ∃ as os, ρ[k]? = some as ∧ Has (At h) as os ∧ Shape prog w ρ as os co) : ∀ d, CpF prog w ρ H h T (cpV H T d) := by
  intro d
  induction d with
  | zero =>
    intro v a v' a' e O
    induction v with
    | ref k =>
      unfold cpV at e
      (first | (replace e := if_inv e; obtain ⟨q, e⟩ := e) | (replace e := if_inv2 e; obtain ⟨q, e⟩ := e) | (split at e; rotate_left; (focus cases e); rename_i q))
      · cases e; exact ⟨O, .refl _, cpRef hT q⟩
    | _ => cases e; exact ⟨O, .refl _, fun u h => h⟩
  | succ d ih =>
    intro v a v' a' e O
    induction v with
    | ref k =>
      unfold cpV at e
      split at e
      · rename_i q; cases e; exact ⟨O, .refl _, cpRef hT q⟩
      · split at e
        · (first | exact nope e | cases e)
        · rename_i o qo
          split at e
          · (first | exact nope e | cases e)
          · rename_i o' hs ks qc
            (first | exact nope e | cases e)
            obtain ⟨O1, p1, f1⟩ := cpO_ok ih qc O
            obtain ⟨as, os, g1, g2, g3⟩ := R k o qo
            have hx : Ext (rhoC ρ T ks) (rhoC ρ T (ks ++ [k])) := rhoC_ext _ _
            refine ⟨⟨by simp [O1.len], fun j co i e1 e2 => ?_⟩, p1.trans ⟨[k], rfl⟩, fun u hu => ?_⟩
            · dsimp only at e1 e2 ⊢
              have hl : hs.length = ks.length := O1.len
              by_cases hj : j < hs.length
              · rw [List.getElem?_append_left hj] at e1
                rw [List.getElem?_append_left (by rw [← hl]; exact hj)] at e2
                obtain ⟨as', os', co0, k1, k2, k3, k4⟩ := O1.obj j co i e1 e2
                exact ⟨as', os', co0, k1, k2, k3, k4.mono hx⟩
              · rw [List.getElem?_append_right (Nat.le_of_not_lt hj)] at e1
                rw [List.getElem?_append_right (by rw [← hl]; exact Nat.le_of_not_lt hj), ← hl] at e2
                have h0 : j - hs.length = 0 := by
                  cases q : j - hs.length with
                  | zero => rfl
                  | succ n => rw [q] at e1; simp at e1
                rw [h0] at e1 e2
                simp at e1 e2
                subst e1; subst e2
                exact ⟨as, os, o, qo, g1, g2, (f1 as os g3).mono hx⟩
            · obtain ⟨b, bs, e1, rfl⟩ := hu
              refine ⟨b, bs, ?_, rfl⟩
              rw [show hs.length = ks.length from O1.len, rhoC_new hT, List.getElem?_append_right (Nat.le_refl _), Nat.sub_self]
              show some ((ρ[k]?).getD []) = _
              rw [e1]; rfl
    | _ => cases e; exact ⟨O, .refl _, fun u h => h⟩
end
section
variable {W : Wd} {S : Sit} {ρ ρ' : Rho} {st st2 : St} {h h1 h2 : Heap}
theorem Ok.copy {T : Nat} {hs : List CO} {ks : List Nat} (O : Ok W S ρ st h) (hf : topFlat T st.heap = true) (hW : W.top.length ≤ T) (C : CpOk W.prog W.w ρ st.heap h T (hs, ks)) :
    Ok W (S.freeze h (T + hs.length)) (rhoC ρ T ks) { loc := [], heap := st.heap.take T ++ hs, lo := T + hs.length, dep := st.dep } h := by
  unfold topFlat at hf
  rw [Bool.and_eq_true] at hf
  have hT : T ≤ st.heap.length := of_decide_eq_true hf.1
  obtain ⟨o, es, ep, b1, b2, b3, b4⟩ := O.blt
  have nd := O.rel.nd
  unfold own at nd
  rw [List.nodup_append] at nd
  have hTr : T ≤ ρ.length := by rw [O.rel.len]; exact hT
  have hl : hs.length = ks.length := C.len
  have len : (rhoC ρ T ks).length = T + hs.length := by unfold rhoC; rw [List.length_append, List.length_take, List.length_map, Nat.min_eq_left hTr, hl]
  have lenT : (ρ.take T).length = T := by rw [List.length_take, Nat.min_eq_left hTr]
  have dr : (rhoC ρ T ks).drop (T + hs.length) = [] := by rw [← len]; exact List.drop_length ..
  have still : ∀ {a : Addr} {o : Obj}, S.B a o → (S.freeze h (T + hs.length)).B a o := fun {a o} e => O.still e
  have lenH : (st.heap.take T ++ hs).length = T + hs.length := by rw [List.length_append, List.length_take, Nat.min_eq_left hT]
  have each : ∀ (k : Nat) (co : CO) (as : List Addr), (st.heap.take T ++ hs)[k]? = some co → (rhoC ρ T ks)[k]? = some as → ∃ (os : List Obj) (k0 : Nat) (co0 : CO), st.heap[k0]? = some co0 ∧ ρ[k0]? = some as ∧ Has (At h) as os ∧ Shape W.prog W.w (rhoC ρ T ks) as os co := by
    intro k co as e1 e2
    by_cases hk : k < T
    · have e3 : co ∈ st.heap.take T := by
        rw [List.getElem?_append_left (by rw [List.length_take]; omega)] at e1
        exact List.mem_of_getElem? e1
      rw [List.getElem?_append_left (by rw [List.length_take]; omega), List.getElem?_take_of_lt hk] at e1
      rw [rhoC_low hTr hk] at e2
      obtain ⟨as', os, g1, g2, g3⟩ := O.rel.at e1
      rw [e2] at g1; cases g1
      have hfl := List.all_eq_true.mp hf.2 _ e3
      refine ⟨os, k, co, e1, e2, g2, ?_⟩
      exact Shape.mono (ρ := ρ.take T) ⟨_, rfl⟩ (Shape.low (ρ := ρ.take T) (ρ' := ρ) ⟨ρ.drop T, (List.take_append_drop _ _).symm⟩ (by rw [lenT]; exact hfl) g3)
    · obtain ⟨j, rfl⟩ := Nat.exists_eq_add_of_le (Nat.le_of_not_lt hk)
      rw [List.getElem?_append_right (by rw [List.length_take]; omega), List.length_take, Nat.min_eq_left hT, Nat.add_sub_cancel_left] at e1
      rw [rhoC_new hTr] at e2
      obtain ⟨k0, q1, q2⟩ := Option.map_eq_some_iff.mp e2
      obtain ⟨as', os, co0, g1, g2, g3, g4⟩ := C.obj j co k0 e1 q1
      rw [g2] at q2
      have q2 : as' = as := q2
      subst q2
      exact ⟨os, k0, co0, g1, g2, g3, g4⟩
  refine ⟨fun a o e => O.still (O.base a o e), ⟨o, es, ep, O.still b1, b2, b3, b4⟩, O.env, fun i a e => ?_, O.ctx, rfl, O.dep, ?_, fun p hp => ⟨(O.frs p hp).1, fun q => (O.frs p hp).2.1 (own_local O (by
    have q : p.1 ∈ own S.env S.cs (rhoC ρ T ks) (T + hs.length) := q
    unfold own at q
    rw [dr, List.flatten_nil, List.append_nil] at q; exact q)), fun o q => q.2.2 (List.mem_map.mpr ⟨p, hp, rfl⟩)⟩, O.trk⟩
  · rw [rhoC_low hTr (Nat.lt_of_lt_of_le (List.getElem?_eq_some_iff.mp e).1 hW)]; exact O.top i a e
  refine ⟨fun b o e => e.1, by rw [len, lenH], by show T + hs.length ≤ (st.heap.take T ++ hs).length; rw [lenH]; exact Nat.le_refl _, ?_, ?_, ?_, ?_, ?_, ?_, O.rel.cin, ?_, ?_⟩
  · intro k co as e1 e2
    dsimp only at e1
    obtain ⟨os, k0, co0, g1, g2, g3, g4⟩ := each k co as e1 e2
    refine ⟨os, ?_, g4⟩
    rw [if_pos (by rw [← len]; exact (List.getElem?_eq_some_iff.mp e2).1)]
    exact g3.mono fun a ha o e => ⟨e, O.objStill g1 g2 a ha⟩
  · show (own S.env S.cs (rhoC ρ T ks) (T + hs.length)).Nodup
    unfold own
    rw [dr, List.flatten_nil, List.append_nil]; exact nd.1
  · intro a ha o e
    have ha : a ∈ own S.env S.cs (rhoC ρ T ks) (T + hs.length) := ha
    unfold own at ha
    rw [dr, List.flatten_nil, List.append_nil] at ha
    exact e.2.1 ha
  · obtain ⟨m, n, r⟩ := O.rel.ns
    exact ⟨m, n, fun i x cv _ e2 => by simp at e2⟩
  · intro i x e
    obtain ⟨c, u, a1, a2, a3, a4⟩ := O.rel.cel i x e
    exact ⟨c, u, a1, a2, a3, fun cv e2 => by simp at e2⟩
  · intro i x e
    obtain ⟨c, o, u, a1, a2, a3, a4⟩ := O.rel.fre i x e
    exact ⟨c, o, u, a1, O.still a2, a3, fun cv e2 => by simp at e2⟩
  · obtain ⟨o, e⟩ := O.rel.glob; exact ⟨o, O.still e⟩
  · intro k as e a ha
    by_cases hk : k < T
    · rw [rhoC_low hTr hk] at e; exact O.rel.big k as e a ha
    · obtain ⟨j, rfl⟩ := Nat.exists_eq_add_of_le (Nat.le_of_not_lt hk)
      rw [rhoC_new hTr] at e
      obtain ⟨k0, q1, q2⟩ := Option.map_eq_some_iff.mp e
      have hj : j < ks.length := (List.getElem?_eq_some_iff.mp q1).1
      obtain ⟨as', os, co0, g1, g2, g3, g4⟩ := C.obj j hs[j] k0 (List.getElem?_eq_getElem _) q1
      rw [g2] at q2
      have q2 : as' = as := q2
      subst q2
      exact O.rel.big k0 as' g2 a ha
theorem Ok.back {n : Nat} (O2 : Ok W (S.freeze h n) ρ' st2 h2) (O : Ok W S ρ st h) (sd : Stood S h h2) : Ok W S ρ st h2 := by
  have kp : ∀ b o, (b ∉ S.env.locals :: S.cs ∧ b ∉ S.fr.map (·.1)) → h.get? b = some o → h2.get? b = some o := fun b o n e => O2.rel.base b o ⟨e, n⟩
  refine ⟨O.base, O.blt, O.env, O.top, O.ctx, O.lo, O.dep, ?_, fun p hp => ⟨(O2.frs p hp).1, (O.frs p hp).2.1, (O.frs p hp).2.2⟩, O.trk⟩
  have cell : ∀ c ∈ S.cs, ∀ u, h.IsCell c u → h2.IsCell c u := fun c hc u ⟨o, ho, hd⟩ => by
    obtain ⟨o', ho', hd'⟩ := sd c (.tail _ hc) o ho
    exact ⟨o', ho', hd'.trans hd⟩
  refine ⟨fun b o e => O2.rel.base b o (O.still e), O.rel.len, O.rel.lo, ?_, O.rel.nd, O.rel.off, ?_, ?_, O.rel.fre, ?_, O.rel.glob, O.rel.big⟩
  · intro k co as e1 e2
    obtain ⟨os, a1, a2⟩ := O.rel.obj k co as e1 e2
    refine ⟨os, ?_, a2⟩
    split
    · rename_i q; rw [if_pos q] at a1; exact a1
    · rename_i q; rw [if_neg q] at a1
      exact a1.mono fun a ha o e => kp a o (O.objStill e1 e2 a ha) e
  · obtain ⟨m, ⟨o, es, ep, ho, r'⟩, r⟩ := O.rel.ns
    obtain ⟨o', ho', hd'⟩ := sd _ (.head _) o ho
    exact ⟨m, ⟨o', es, ep, ho', hd'.trans r'.1, r'.2⟩, r⟩
  · intro i x e
    obtain ⟨c, u, a1, a2, a3, a4⟩ := O.rel.cel i x e
    exact ⟨c, u, a1, a2, cell c a2 u a3, a4⟩
  · intro c hc
    obtain ⟨u, hu⟩ := O.rel.cin c hc
    exact ⟨u, cell c hc u hu⟩
inductive Ok_takeR (co : CO) (u : Value) : Prop
  | intro as (f1 : Ok W S (ρ ++ [as]) { st with heap := st.heap ++ [co] } h2) (f2 : VRel (ρ ++ [as]) (.ref st.heap.length) u)
theorem Ok.take {n T : Nat} (O2 : Ok W (S.freeze h n) ρ' st2 h2) (O : Ok W S ρ st h) (sd : Stood S h h2) (hT : T ≤ ρ.length) (hE : Ext (ρ.take T) ρ') {k : Nat} {co : CO} {u : Value} (hk : n ≤ k) (hc : st2.heap[k]? = some co) (hf : flat T co = true) (hu : VRel ρ' (.ref k) u) :
Ok_takeR (W := W) (S := S) (ρ := ρ) (st := st) (h2 := h2) co u := by
  obtain ⟨as, os, e1, e2, e3⟩ := O2.rel.at hc
  obtain ⟨a, as', e4, rfl⟩ := hu
  rw [e1] at e4; cases e4
  refine ⟨a :: as', ?_, a, as', ?_, rfl⟩
  · have Tk := O2.back O sd
    have hin : ∀ b ∈ a :: as', b ∈ own S.env S.cs ρ' st2.lo := fun b hb => List.mem_append.mpr (.inr (mem_own_obj e1 (by rw [O2.lo]; exact hk) hb))
    refine ⟨Tk.base, Tk.blt, Tk.env, fun i b e => Ext.get ⟨_, rfl⟩ (Tk.top i b e), Tk.ctx, Tk.lo, Tk.dep, Tk.rel.adopt (os := os) (fun b hb => ⟨fun q => ?_, fun o q => ?_, O2.rel.big k _ e1 b hb⟩) ?_ e2 ?_, fun p hp => ?_, Tk.trk⟩
    rotate_right
    · refine (Tk.frs p hp).to (fun o e => e) fun q => ?_
      have q : p.1 ∈ own S.env S.cs (ρ ++ [a :: as']) st.lo := q
      rw [own_more (by rw [O.rel.len]; exact O.rel.lo)] at q
      rcases List.mem_append.mp q with q | q
      · exact (Tk.frs p hp).2.1 q
      · exact (O2.frs p hp).2.1 (hin _ q)
    · have nd := O2.rel.nd
      unfold own at nd
      rw [List.nodup_append] at nd
      rcases List.mem_append.mp q with q | q
      · exact nd.2.2 b q b (mem_own_obj e1 (by rw [O2.lo]; exact hk) hb) rfl
      · obtain ⟨bs, hbs, hb'⟩ := List.mem_flatten.mp q
        obtain ⟨i, hi⟩ := List.mem_iff_getElem?.mp hbs
        rw [List.getElem?_drop] at hi
        have hik : st.lo + i < st.heap.length := by rw [← O.rel.len]; exact (List.getElem?_eq_some_iff.mp hi).1
        obtain ⟨bs', os', g1, g2, g3⟩ := O.rel.at (List.getElem?_eq_getElem hik)
        rw [hi] at g1; cases g1
        obtain ⟨o', ho'⟩ := g2.mem b hb'
        exact O2.rel.off b (hin b hb) o' ⟨ho', O.objStill (List.getElem?_eq_getElem hik) hi b hb'⟩
    · exact O2.rel.off b (hin b hb) o (O.still q)
    · have nd := O2.rel.nd
      unfold own at nd
      rw [List.nodup_append] at nd
      refine List.Nodup.sublist ?_ nd.2.1
      obtain ⟨hk1, hk2⟩ := List.getElem?_eq_some_iff.mp e1
      have hlo : st2.lo ≤ k := by rw [O2.lo]; exact hk
      have : ρ'[k] ∈ ρ'.drop st2.lo := List.mem_iff_getElem?.mpr ⟨k - st2.lo, by rw [List.getElem?_drop, show st2.lo + (k - st2.lo) = k from Nat.add_sub_of_le (by omega)]; exact List.getElem?_eq_getElem hk1⟩
      rw [← hk2]
      exact List.sublist_flatten_of_mem this
    · have lenT : (ρ.take T).length = T := by rw [List.length_take, Nat.min_eq_left hT]
      exact Shape.mono (ρ := ρ.take T) ⟨ρ.drop T ++ [a :: as'], by rw [← List.append_assoc, List.take_append_drop]⟩ (Shape.low hE (by rw [lenT]; exact hf) e3)
  · rw [← O.rel.len, List.getElem?_append_right (Nat.le_refl _)]; simp
end
theorem canon_sound {P : Prog} {W : Wd} {m : Nat} (ht : Nat.ble W.top.length P.top = true) (C : CallAt P W m) {S : Sit} {ρ : Rho} {st st' : St} {s : Shared} {f : Addr} {args : List CV} {us : List Value} {v : CV} (O : Ok W S ρ st s.heap) (h : canon P.top ((run P m).c f) args st = some (v, st')) (hv : VRels ρ args us) :
    Does W S ρ s (call (.ref f) us) st' (fun ρ' r => VRel ρ' v r) := by
  have hW : W.top.length ≤ P.top := Nat.le_of_ble_eq_true ht
  unfold canon at h
  (first | (replace h := if_inv h; obtain ⟨hf, h⟩ := h) | (replace h := if_inv2 h; obtain ⟨hf, h⟩ := h) | (split at h; rotate_left; (focus cases h); rename_i hf))
  · have hT : P.top ≤ st.heap.length := by
      have hf2 := hf
      unfold topFlat at hf2
      rw [Bool.and_eq_true] at hf2
      exact of_decide_eq_true hf2.1
    have hTr : P.top ≤ ρ.length := by rw [O.rel.len]; exact hT
    split at h
    · (first | exact nope h | cases h)
    · rename_i args' hs ks qc
      obtain ⟨C1, _, fv⟩ := cpL_ok (cpV_ok (prog := W.prog) (w := W.w) (h := s.heap) hTr (fun k co e => let ⟨a, b, c, d, f⟩ := O.rel.at e; ⟨a, b, c, d, f⟩) 3) _ _ _ _ qc ⟨rfl, fun j co k e => by simp at e⟩
      have hv' := fv us hv
      have Oc := O.copy hf hW C1
      split at h
      · (first | exact nope h | cases h)
      · rename_i w st2 q
        intro Q E hQ
        refine wpAny_call (C Oc q hv' Q E fun u ρ2 s2 e2 O2 p2 m2 sd => ?_)
        have hE0 : Ext (ρ.take P.top) ρ2 := Ext.trans ⟨_, rfl⟩ e2
        induction w with
        | ref k =>
          dsimp only at h
          split at h
          · rename_i hk
            (first | exact nope h | cases h)
            refine hQ _ _ _ (Ext.refl _) (O2.back O sd) ?_ m2
            obtain ⟨b, bs, g1, g2⟩ := p2
            refine ⟨b, bs, ?_, g2⟩
            have : k < ρ.length := Nat.lt_of_lt_of_le hk hTr
            have g3 : (ρ.take P.top)[k]? = some ρ[k] := by rw [List.getElem?_take_of_lt hk]; exact List.getElem?_eq_getElem this
            have g4 := hE0.get g3
            rw [g1] at g4
            rw [List.getElem?_eq_getElem this, g4]
          · split at h
            · (first | exact nope h | cases h)
            · rename_i hk2
              cases q2 : st2.heap[k]? with
              | none => rw [q2] at h; (first | exact nope h | cases h)
              | some co =>
                rw [q2] at h
                dsimp only at h
                (first | (replace h := if_inv h; obtain ⟨hfl, h⟩ := h) | (replace h := if_inv2 h; obtain ⟨hfl, h⟩ := h) | (split at h; rotate_left; (focus cases h); rename_i hfl))
                · (first | exact nope h | cases h)
                  obtain ⟨as, O3, hv3⟩ := O2.take O sd hTr hE0 (Nat.le_of_not_lt hk2) q2 hfl p2
                  exact hQ _ _ _ ⟨[as], rfl⟩ O3 hv3 m2
        | none => (first | exact nope h | cases h); exact hQ _ _ _ (Ext.refl _) (O2.back O sd) p2 m2
        | bool b => (first | exact nope h | cases h); exact hQ _ _ _ (Ext.refl _) (O2.back O sd) p2 m2
        | int b => (first | exact nope h | cases h); exact hQ _ _ _ (Ext.refl _) (O2.back O sd) p2 m2
        | str b => (first | exact nope h | cases h); exact hQ _ _ _ (Ext.refl _) (O2.back O sd) p2 m2
        | lit b => (first | exact nope h | cases h); exact hQ _ _ _ (Ext.refl _) (O2.back O sd) p2 m2
section
variable {T : Tx}
theorem SE.callf {x : Str} {f : Addr} {pure : Bool} {cs : List CE} {es : List Expr} {np pos : Pos} (hx : T.sc.names.lookup x = some .globalImplicit) (hg : nsIn T.W.K mainGlobals x = some (some (.ref f))) (hk : keepIn T.W.K (.ref f) = true) (ha : SEs T cs es)
    (ht : Nat.ble T.W.top.length T.P.top = true := by rfl) (hd : (x == ("__debug__" : Str)) = false := by decide) : SE T (.callf f pure cs) (.Call (.Name x np) es [] pos) := fun n C S ρ st st' s v I O h => by
  replace h := run_e h
  obtain ⟨m, rfl, h⟩ := h
  unfold stepE at h
  replace h := bnd_some h
  obtain ⟨vs, st1, h1, h⟩ := h
  intro Q E hQ
  have hn := SE.glob (T := T) (pos := np) (v := .lit (.ref f)) hx hg (show TopVal T.W (.lit (.ref f)) (.ref f) from rfl) hd
  have hm0 : (run T.P (m + 1)).e (.glob (.lit (.ref f))) st = some (.lit (.ref f), st) := rfl
  refine wpAny_Call_ofName (hn (m + 1) C I O hm0 _ _ fun g ρ0 s0 e0 O0 p0 m0 => ?_)
  have p0 : g = .ref f := p0
  subst p0
  refine callW (Kp.known hk) ha C.down I O0 h1 fun us ρ1 s1 e1 O1 p1 m1 => ?_
  have fin : Then T.W S ρ1 s1 st' (fun ρ' r => VRel ρ' v r) Q := fun u2 ρ2 s2 e2 O2 p2 m2 => hQ _ _ _ ((e0.trans e1).trans e2) O2 p2 ((m0.trans m1).trans m2)
  split at h
  · exact canon_sound ht (C m (Nat.lt_succ_self _)) O1 h p1 _ _ fin
  · exact wpAny_call (C m (Nat.lt_succ_self _) O1 h p1 _ _ fin.toF)
end
end Mine
end

section
set_option genSizeOf false
set_option genInjectivity false
namespace Mine
noncomputable def cloL (cells : List (Str × Addr)) : List (Str × NameKind) → List (Str × Addr) → List (Str × Addr)
  | [], acc => acc
  | (n, k) :: r, acc => if k == .free then (match cells.lookup n with | some c => cloL cells r ((n, c) :: acc) | none => cloL cells r acc) else cloL cells r acc
theorem forIn_clo {env : Env} : ∀ (names : List (Str × NameKind)) (acc : List (Str × Addr)), (∀ p ∈ names, p.2 = .free → (env.cells.lookup p.1).isSome = true) →
    (forIn names acc fun (p : Str × NameKind) (cs : List (Str × Addr)) => (if p.2 == NameKind.free then (do let c ← cellOf env p.1; pure (ForInStep.yield ((p.1, c) :: cs))) else pure (ForInStep.yield cs) : Sem (ForInStep (List (Str × Addr))))) = (pure (cloL env.cells names acc) : Sem (List (Str × Addr)))
  | [], acc, _ => rfl
  | (n, k) :: r, acc, h => by
    rw [List.forIn_cons]
    dsimp only
    unfold cloL
    have ih := forIn_clo (env := env) r
    by_cases hk : (k == NameKind.free) = true
    · rw [if_pos hk, if_pos hk]
      obtain ⟨c, hc⟩ := Option.isSome_iff_exists.mp (h (n, k) (.head _) (beq_iff_eq.mp hk))
      have e : cellOf env n = pure c := by unfold cellOf; rw [hc]
      rw [e, pure_bind, pure_bind, hc]
      exact ih _ fun p hp => h p (.tail _ hp)
    · rw [if_neg hk, if_neg hk, pure_bind]
      exact ih _ fun p hp => h p (.tail _ hp)
theorem closure_is {scope : Scope} {env : Env} (h : ∀ p ∈ scope.names, p.2 = .free → (env.cells.lookup p.1).isSome = true) : closureFor scope env = pure (cloL env.cells scope.names []) := by
  have := forIn_clo (env := env) scope.names [] h
  show ((forIn scope.names [] fun (p : Str × NameKind) (cs : List (Str × Addr)) => (if p.2 == NameKind.free then (do let c ← cellOf env p.1; pure (ForInStep.yield ((p.1, c) :: cs))) else pure (ForInStep.yield cs) : Sem (ForInStep (List (Str × Addr))))) >>= fun r => pure r) = _
  rw [this]
  rfl
theorem cloL_acc {cells : List (Str × Addr)} {x : Str} {c : Addr} (hx : cells.lookup x = some c) : ∀ {names : List (Str × NameKind)} {acc : List (Str × Addr)}, acc.lookup x = some c → (cloL cells names acc).lookup x = some c
  | [], _, h => h
  | (n, k) :: r, acc, h => by
    unfold cloL
    split
    · split
      · rename_i d hd
        refine cloL_acc hx ?_
        rw [List.lookup_cons]
        split
        · rename_i q
          rw [← beq_iff_eq.mp q, hx] at hd
          exact hd.symm
        · exact h
      · exact cloL_acc hx h
    · exact cloL_acc hx h
theorem cloL_has {cells : List (Str × Addr)} {x : Str} {c : Addr} (hx : cells.lookup x = some c) : ∀ {names : List (Str × NameKind)} {acc : List (Str × Addr)}, (x, NameKind.free) ∈ names → (cloL cells names acc).lookup x = some c
  | [], _, h => nomatch h
  | (n, k) :: r, acc, h => by
    unfold cloL
    rcases List.mem_cons.mp h with e | h
    · (first | exact nope e | cases e)
      rw [if_pos (by rfl), hx]
      refine cloL_acc hx ?_
      rw [List.lookup_cons]; simp
    · split
      · split
        · exact cloL_has hx h
        · exact cloL_has hx h
      · exact cloL_has hx h
theorem cloL_apart {cells : List (Str × Addr)} (hA : cells.Pairwise fun x y => x.2 ≠ y.2) : ∀ {names : List (Str × NameKind)} {acc : List (Str × Addr)}, (names.map (·.1)).Nodup → (∀ q ∈ acc, q.1 ∉ names.map (·.1)) → (∀ q ∈ acc, cells.lookup q.1 = some q.2) →
    acc.Pairwise (fun x y => x.2 ≠ y.2) → (cloL cells names acc).Pairwise fun x y => x.2 ≠ y.2
  | [], _, _, _, _, h => h
  | (n, k) :: r, acc, hn, ha, hl, h => by
    simp only [List.map_cons, List.nodup_cons] at hn
    have ha' : ∀ q ∈ acc, q.1 ∉ r.map (·.1) := fun q hq m => ha q hq (by simp only [List.map_cons]; exact .tail _ m)
    unfold cloL
    split
    · split
      · rename_i c hc
        refine cloL_apart hA hn.2 (fun q hq => ?_) (fun q hq => ?_) ?_
        · rcases List.mem_cons.mp hq with rfl | hq
          · exact hn.1
          · exact ha' q hq
        · rcases List.mem_cons.mp hq with rfl | hq
          · exact hc
          · exact hl q hq
        · rw [List.pairwise_cons]
          refine ⟨fun q hq e => ?_, h⟩
          have h1 := mem_of_lookup hc
          have h2 := mem_of_lookup (hl q hq)
          rw [← e] at h2
          have := name_of_addr hA h1 h2
          exact ha q hq (by rw [← this]; simp)
      · exact cloL_apart hA hn.2 ha' hl h
    · exact cloL_apart hA hn.2 ha' hl h

noncomputable def CompTurn (prog : Program) (w : World) (A : Around) (R : Result → Shared → Prop) (elt target : Expr) (ifs : List Expr) (it acc : Value) (env : Env) (I : Nat → Shared → Prop) (n : Nat) (s : Shared) : Prop :=
  wpAny (model prog w) A (pyNext it) (fun r s₁ => match r with
      | none => R (.ok .next) s₁
      | some v => wpAny (model prog w) A (letOwnedTupleGo target it v) (fun _ s₁' => wpAny (model prog w) A (assign target env v) (fun _ s₂ =>
          wpAny (model prog w) A (forIn ifs true fun c r => if r = true then do let ok ← isTrue c env (eval c env); pure (ForInStep.yield ok) else pure (ForInStep.yield r)) (fun ok s₃ =>
            if ok = true then wpAny (model prog w) A (eval elt env) (fun x s₄ =>
              wpAny (model prog w) A (call (.builtin "list.append") [acc, x]) (fun _ s₅ => ∃ m, m < n ∧ I m s₅) (notedBy (model prog w) A env fun e s' => R (.error e) s') s₄) (notedBy (model prog w) A env fun e s' => R (.error e) s') s₃
            else ∃ m, m < n ∧ I m s₃) (notedBy (model prog w) A env fun e s' => R (.error e) s') s₂) (notedBy (model prog w) A env fun e s' => R (.error e) s') s₁') (notedBy (model prog w) A env fun e s' => R (.error e) s') s₁) (notedBy (model prog w) A env fun e s' => R (.error e) s') s
theorem comp_loop {prog : Program} {w : World} {A : Around} {R : Result → Shared → Prop} {s : Shared} {elt target iter : Expr} {ifs : List Expr} {scope : Scope} {pos : Pos} {it acc : Value} {env : Env} (I : Nat → Shared → Prop)
    (turn : ∀ n s, I n s → CompTurn prog w A R elt target ifs it acc env I n s)
    (n : Nat) (h : I n s) : codeAny (model prog w) A (.compLoop (.ListComp elt [⟨target, iter, ifs, 0⟩] scope pos) 0 it acc env) R s := by
  refine codeAny_loop rfl I (fun n s hI => ?_) n h
  show wpAny _ A ((compTurn (.ListComp elt [⟨target, iter, ifs, 0⟩] scope pos) 0 it acc env).onRaise (fun x => do noteFrame x env; theTreesLotGoes x)) _ _ s
  refine wpAny_noted ?_
  rw [compTurn_list]
  refine wpAny_bind (wpAny_standAt (wpAny_bind (wpAny_mono (turn n s hI) (fun r s₁ h₁ => ?_) fun _ _ h' => h')))
  induction r with
  | none => exact wpAny_pure h₁
  | some v =>
    refine wpAny_bind (wpAny_mono h₁ (fun _ s₁' h₁' => ?_) fun _ _ h' => h')
    refine wpAny_bind (wpAny_mono h₁' (fun _ s₂ h₂ => wpAny_bind (wpAny_mono h₂ (fun ok s₃ h₃ => ?_) fun _ _ h' => h')) fun _ _ h' => h')
    induction ok with
    | false => exact wpAny_pure ⟨rfl, h₃⟩
    | true =>
      exact wpAny_bind (wpAny_bind (wpAny_mono h₃ (fun x s₄ h₄ => wpAny_bind (wpAny_mono h₄ (fun _ s₅ h₅ => wpAny_pure (wpAny_pure ⟨rfl, h₅⟩)) fun _ _ h' => h')) fun _ _ h' => h'))

theorem iter_self {W : Wd} {S : Sit} {ρ ρ0 : Rho} {st : St} {s : Shared} {L : List (Addr × Obj)} (H : Hid W S ρ0 L ρ st s.heap) {it : It} {v : Value} (hI : ItRel W ρ L v it) {Q E : Value → Shared → Prop} (hQ : Q v s) : wpAny (model W.prog W.w) S.A (pyIter v) Q E s := by
  induction it with
  | seq t k i =>
    obtain ⟨I, o, a, rfl, rfl, h3, h4, h5⟩ := hI
    induction t with
    | false => exact wpAny_pyIter_listiter ⟨o, H.at (.head _), h4, h5⟩ hQ
    | true => exact wpAny_pyIter_tupleiter ⟨o, H.at (.head _), h4, h5⟩ hQ
  | rng xs =>
    obtain ⟨I, x, c, rfl, rfl, h3⟩ := hI
    exact wpAny_pyIter_rangeiter (H.at (.head _)) hQ
  | enm t k i =>
    obtain ⟨I, it, o, a, old, rfl, h2, rfl, h3, h4, h5⟩ := hI
    exact wpAny_pyIter_enum (H.at (.head _)) hQ
  | zp k l i =>
    obtain ⟨I, TI, TO, i1, i2, o1, o2, a, b, x, y, rfl, d1, d2, d3, d4, d5, d6, d7, d8, d9, d10, rfl, h3, h4, h5, h6, h7, h8⟩ := hI
    exact wpAny_pyIter_zip (H.at (.head _)) hQ
  | keys k ep n i =>
    obtain ⟨I, o, a, rfl, rfl, h3, h4, h5⟩ := hI
    exact wpAny_pyIter_keyiter ⟨o, H.at (.head _), h4, h5⟩ hQ
  | vals k ep n i =>
    obtain ⟨I, o, a, rfl, rfl, h3, h4, h5⟩ := hI
    exact wpAny_pyIter_valiter ⟨o, H.at (.head _), h4, h5⟩ hQ
theorem plus_plus {S : Sit} {L1 L2 : List (Addr × Obj)} : (S.plus L1).plus L2 = S.plus (L1 ++ L2) := by
  unfold Sit.plus
  congr 1
  funext a o
  simp only [List.mem_append]
  exact propext ⟨fun h => h.elim (fun h => h.elim .inl fun h => .inr (.inl h)) fun h => .inr (.inr h), fun h => h.elim (fun h => .inl (.inl h)) fun h => h.elim (fun h => .inl (.inr h)) .inr⟩
theorem Hid.part {W : Wd} {S : Sit} {ρ ρ0 : Rho} {st : St} {h : Heap} {L1 L2 : List (Addr × Obj)} (H : Hid W S ρ0 (L1 ++ L2) ρ st h) (hd : ∀ p ∈ L2, ∀ q ∈ L1, p.1 ≠ q.1) : Hid W (S.plus L1) ρ L2 ρ st h := by
  have O : Ok W (S.plus L1) ρ st h := H.bare.plus fun p hp => ⟨H.at (List.mem_append.mpr (.inl hp)), (H.offs p.1 (List.mem_map.mpr ⟨p, List.mem_append.mpr (.inl hp), rfl⟩)).1, (H.offs p.1 (List.mem_map.mpr ⟨p, List.mem_append.mpr (.inl hp), rfl⟩)).2.2⟩
  refine ⟨⟨st, h, O⟩, Ext.refl _, fun p hp o e => ?_, by rw [plus_plus]; exact H.ok⟩
  rcases e with e | e
  · exact H.new p (List.mem_append.mpr (.inr hp)) o e
  · exact hd p hp _ e rfl
theorem Hid.whole {W : Wd} {S : Sit} {ρ ρ0 ρ1 : Rho} {st st1 : St} {h h1 : Heap} {L1 L2 L3 : List (Addr × Obj)} (H : Hid W (S.plus L1) ρ1 L3 ρ st h) (H0 : Hid W S ρ0 (L1 ++ L2) ρ1 st1 h1) :
    Hid W S ρ0 (L1 ++ L3) ρ st h ∧ ∀ p ∈ L3, ∀ q ∈ L1, p.1 ≠ q.1 := by
  refine ⟨⟨H0.start, H0.ext.trans H.ext, fun p hp o e => ?_, by rw [← plus_plus]; exact H.ok⟩, fun p hp q hq e => ?_⟩
  · rcases List.mem_append.mp hp with hp | hp
    · exact H0.new p (List.mem_append.mpr (.inl hp)) o e
    · exact H.new p hp o (.inl e)
  · refine H.new p hp q.2 (.inr ?_)
    rw [e]; exact hq
end Mine
end

section
set_option genSizeOf false
set_option genInjectivity false
namespace Mine
noncomputable def relS (scope outer : Scope) : Scope := { scope with names := scope.names.map fun (n, k) => if (k == .free && outer.kind == .function && outer.names.lookup n == some .cell) then (n, .cell) else (n, k) }
structure CompOk (T : Tx) (scope : Scope) (ks : Kinds) (ts : List Nat) : Prop where
  kind : scope.kind = .function
  nocell : ∀ y ∈ scope.names, y.2 ≠ .cell
  nodup : (scope.names.map (·.1)).Nodup
  loc : ∀ (i : Nat) (x : Str), ks[i]? = some (x, SK.loc) → (x, NameKind.local) ∈ scope.names ∧ i ∈ ts
  cell : ∀ (i : Nat) (x : Str), ks[i]? ≠ some (x, SK.cell)
  free : ∀ (i : Nat) (x : Str), ks[i]? = some (x, SK.free) → (x, NameKind.free) ∈ scope.names ∧ (T.ks[i]? = some (x, SK.cell) ∨ T.ks[i]? = some (x, SK.free)) ∧ i ∉ ts
  outer : ∀ p ∈ scope.names, p.2 = .free → ∃ i : Nat, T.ks[i]? = some (p.1, SK.cell) ∨ T.ks[i]? = some (p.1, SK.free)
  uniq : Uniq ks
theorem clearL_other : ∀ {ts : List Nat} {l : List (Option CV)} {i : Nat}, i ∉ ts → (clearL ts l)[i]? = l[i]?
  | [], _, _, _ => rfl
  | j :: r, l, i, h => by
    simp only [List.mem_cons, not_or] at h
    unfold clearL
    rw [clearL_other h.2, List.getElem?_set_ne (Ne.symm h.1)]
theorem clearL_none : ∀ {ts : List Nat} {l : List (Option CV)} {i : Nat} {cv : CV}, l[i]? ≠ some (some cv) → (clearL ts l)[i]? ≠ some (some cv)
  | [], _, _, _, h => h
  | j :: r, l, i, cv, h => by
    unfold clearL
    refine clearL_none ?_
    by_cases q : j = i
    · subst q
      rw [List.getElem?_set]
      simp
    · rw [List.getElem?_set_ne q]; exact h
theorem clearL_in : ∀ {ts : List Nat} {l : List (Option CV)} {i : Nat} {cv : CV}, i ∈ ts → (clearL ts l)[i]? ≠ some (some cv)
  | j :: r, l, i, cv, h => by
    unfold clearL
    by_cases q : i = j
    · subst q
      refine clearL_none ?_
      rw [List.getElem?_set]
      simp
    · exact clearL_in ((List.mem_cons.mp h).resolve_left q)
theorem lookup_of_mem {β : Type} {x : Str} {b : β} : ∀ {l : List (Str × β)}, (l.map (·.1)).Nodup → (x, b) ∈ l → l.lookup x = some b
  | (n, k) :: r, hn, h => by
    simp only [List.map_cons, List.nodup_cons] at hn
    rw [List.lookup_cons]
    rcases List.mem_cons.mp h with e | h
    · cases e; simp
    · have : (x == n) = false := beq_eq_false_iff_ne.mpr fun e => hn.1 (by rw [← e]; exact List.mem_map.mpr ⟨_, h, rfl⟩)
      rw [this]; exact lookup_of_mem hn.2 h
theorem rel_free {env : Env} {x : Str} (hk : env.scope.kind = .function) (hx : env.kindOf x = some .cell) : ∀ {names : List (Str × NameKind)}, (names.map (·.1)).Nodup → (x, NameKind.free) ∈ names →
    (names.map fun (n, k) => if (k == NameKind.free && env.scope.kind == .function && env.kindOf n == some .cell) then (n, NameKind.cell) else (n, k)).lookup x = some .cell := by
  intro names hn hm
  refine lookup_of_mem ?_ ?_
  · rw [List.map_map]
    have : ((fun x : Str × NameKind => x.1) ∘ fun (p : Str × NameKind) => match p with | (n, k) => if (k == NameKind.free && env.scope.kind == .function && env.kindOf n == some .cell) = true then (n, NameKind.cell) else (n, k)) = fun x => x.1 := by
      funext p
      obtain ⟨n, k⟩ := p
      dsimp only [Function.comp]
      split <;> rfl
    rw [this]; exact hn
  · refine List.mem_map.mpr ⟨_, hm, ?_⟩
    dsimp only
    rw [if_pos (by rw [hk, hx]; rfl)]
section
variable {T : Tx} {scope : Scope} {ks : Kinds} {ts : List Nat} {S : Sit} {ρ : Rho} {st : St} {h h1 : Heap} {L : List (Addr × Obj)} {C : Addr}
noncomputable def Sit.comp (S : Sit) (h : Heap) (L : List (Addr × Obj)) (env : Env) (ks : Kinds) (n : Nat) : Sit := { B := fun a o => h.get? a = some o ∧ a ∉ L.map (·.1), env := env, ks := ks, cs := [], A := S.A, lo := n, dep := min S.dep 20, fr := [] }
inductive outer_cellR (i : Nat) (x : Str) : Prop
  | intro (f1 : S.env.kindOf x = some .cell) c o u (f2 : S.env.cells.lookup x = some c) (f3 : h.get? c = some o) (f4 : o.data = .cell u) (f5 : (c ∈ S.cs ∨ S.B c o)) (f6 : ∀ cv, st.loc[i]? = some (some cv) → ∃ v, u = some v ∧ VRel ρ cv v)
theorem outer_cell (I : T.In S) (O : Ok T.W S ρ st h) {i : Nat} {x : Str} (e : T.ks[i]? = some (x, SK.cell) ∨ T.ks[i]? = some (x, SK.free)) :
outer_cellR (S := S) (ρ := ρ) (st := st) (h := h) i x := by
  rw [← I.ks] at e
  rcases e with e | e
  · obtain ⟨c, u, a1, a2, ⟨o, ho, hd⟩, a4⟩ := O.rel.cel i x e
    exact ⟨O.env.cell i x e, c, o, u, a1, ho, hd, .inl a2, a4⟩
  · obtain ⟨c, o, u, a1, a2, a3, a4⟩ := O.rel.fre i x e
    exact ⟨O.env.free i x e, c, o, u, a1, O.rel.base _ _ a2, a3, .inr a2, a4⟩
theorem comp_clo (K : CompOk T scope ks ts) (I : T.In S) (O : Ok T.W S ρ st h) : closureFor scope S.env = pure (cloL S.env.cells scope.names []) :=
  closure_is fun p hp e => by
    obtain ⟨i, hi⟩ := K.outer p hp e
    obtain ⟨_, c, o, u, a1, _⟩ := outer_cell I O hi
    rw [a1]; rfl
theorem comp_start (K : CompOk T scope ks ts) (I : T.In S) {ρ0 : Rho} (H : Hid T.W S ρ0 L ρ st h) (kp : ∀ b o, h.get? b = some o → h1.get? b = some o) (hC : h.objs.size ≤ C) {m : Str → Option Value} (hm : h1.Ns C m) :
    Ok T.W (S.comp h L (compEnvC scope (cloL S.env.cells scope.names []) C S.env) ks st.heap.length) ρ { st with loc := clearL ts st.loc, lo := st.heap.length, dep := min st.dep 20 } h1 := by
  have O := H.bare
  have dr : ρ.drop st.heap.length = [] := by rw [← O.rel.len]; exact List.drop_length ..
  have still : ∀ a o, S.B a o → h.get? a = some o ∧ a ∉ L.map (·.1) := fun a o e => ⟨O.rel.base _ _ e, fun q => (H.offs a q).2.1 o e⟩
  obtain ⟨o, es, ep, b1, b2, b3, b4⟩ := O.blt
  refine ⟨fun a o e => still a o (O.base a o e), ⟨o, es, ep, still _ _ b1, b2, b3, b4⟩, ?_, O.top, ⟨fun q => O.ctx.handled (fun z => q (by show min S.dep 20 = 0; rw [z]; rfl)), Nat.lt_of_le_of_lt (Nat.add_le_add_left (Nat.min_le_left _ _) _) O.ctx.depth, Nat.lt_of_le_of_lt (Nat.add_le_add_right (Nat.add_le_add_left (Nat.mul_le_mul_left 10 (Nat.min_le_left _ _)) _) 100) O.ctx.units⟩, rfl, by show min st.dep 20 = min S.dep 20; rw [O.dep], ?_, (fun p hp => nomatch hp), fun q => absurd (show 20 < min S.dep 20 from q) (by omega)⟩
  · refine ⟨K.kind, O.env.glob, O.env.blt, fun i x e => ?_, fun i x e => absurd e (K.cell i x), fun i x e => ?_, fun i j x k k' a b c d => K.uniq.at i j x k k' a b c d, ?_⟩
    · exact lookup_relabel_local (lookup_of_mem K.nodup (K.loc i x e).1)
    · obtain ⟨h1, h2, h3⟩ := K.free i x e
      exact rel_free O.env.kind (outer_cell I O h2).1 K.nodup h1
    · exact cloL_apart O.env.apart K.nodup (fun q hq => nomatch hq) (fun q hq => nomatch hq) .nil
  · refine ⟨fun b o e => kp _ _ e.1, O.rel.len, Nat.le_refl _, ?_, ?_, ?_, ⟨m, hm, fun i x cv e1 e2 => absurd e2 (clearL_in (K.loc i x e1).2)⟩, fun i x e => absurd e (K.cell i x), ?_, (fun c hc => nomatch hc), ?_, O.rel.big⟩
    · intro k co as e1 e2
      obtain ⟨as', os, g1, g2, g3⟩ := O.rel.at e1
      rw [e2] at g1; cases g1
      refine ⟨os, ?_, g3⟩
      rw [if_pos (by exact (List.getElem?_eq_some_iff.mp e1).1)]
      refine g2.mono fun a ha o e => ⟨e, fun q => ?_⟩
      obtain ⟨os', a1, a2⟩ := O.rel.obj k co as e1 e2
      by_cases hk : k < st.lo
      · rw [if_pos hk] at a1
        obtain ⟨o', ho'⟩ := a1.mem a ha
        exact (H.offs a q).2.1 o' ho'
      · exact (H.offs a q).1 (List.mem_append.mpr (.inr (mem_own_obj e2 (Nat.le_of_not_lt hk) ha)))
    · show (own _ [] ρ st.heap.length).Nodup
      unfold own
      rw [dr]; simp
    · intro a ha o e
      have ha : a ∈ own (compEnvC scope (cloL S.env.cells scope.names []) C S.env) [] ρ st.heap.length := ha
      unfold own at ha
      rw [dr] at ha
      simp only [List.flatten_nil, List.append_nil, List.mem_singleton] at ha
      have : a = C := ha
      subst this
      exact absurd (Heap.lt_size e.1) (Nat.not_lt.mpr hC)
    · intro i x e
      obtain ⟨f1, f2, f3⟩ := K.free i x e
      obtain ⟨_, c, o, u, a1, a2, a3, a4, a5⟩ := outer_cell I O f2
      refine ⟨c, o, u, cloL_has a1 f1, ⟨a2, fun q => ?_⟩, a3, fun cv e2 => a5 cv ?_⟩
      · rcases a4 with a4 | a4
        · exact (H.offs c q).1 (List.mem_append.mpr (.inl (.tail _ a4)))
        · exact (H.offs c q).2.1 o a4
      · dsimp only at e2
        rw [clearL_other f3] at e2; exact e2
    · obtain ⟨o, e⟩ := O.rel.glob; exact ⟨o, still _ _ e⟩
end
end Mine
end

section
set_option genSizeOf false
set_option genInjectivity false
namespace Mine
section
variable {T : Tx}
noncomputable def STs (T : Tx) : List CE → List Expr → Prop
  | [], [] => True
  | [c], [e] => STt T c e
  | _, _ => False
theorem tests_sound {conds : List CE} {ifs : List Expr} (hc : STs T conds ifs) {n : Nat} (C : Calls T.P T.W n) {S : Sit} {ρ : Rho} {st st' : St} {s : Shared} {b : Bool} (I : T.In S) (O : Ok T.W S ρ st s.heap) (h : allT (run T.P n) conds st = some (b, st')) :
    Does T.W S ρ s (forIn ifs true fun c r => if r = true then do let ok ← isTrue c S.env (eval c S.env); pure (ForInStep.yield ok) else pure (ForInStep.yield r)) st' (fun _ r => r = b) := by
  match conds, ifs, hc with
  | [], [], _ => (first | exact nope h | refine rt_elim h ?_ | cases h); exact fun Q E hQ => wpAny_tests_nil (hQ _ _ _ (Ext.refl _) O rfl Same.refl)
  | [c], [e], hc =>
    unfold allT at h
    replace h := bnd_some h
    obtain ⟨b1, st1, h1, h⟩ := h
    have e1 : b = b1 ∧ st' = st1 := by
      induction b1 with
      | true => (first | exact nope h | refine rt_elim h ?_ | cases h); exact ⟨rfl, rfl⟩
      | false => (first | exact nope h | refine rt_elim h ?_ | cases h); exact ⟨rfl, rfl⟩
    obtain ⟨rfl, rfl⟩ := e1
    exact fun Q E hQ => wpAny_tests_one (hc n C I O h1 _ _ hQ)
inductive run_gR (P : Prog) (n : Nat) (it : It) (ts : List Nat) (conds : List CE) (elt : CE) (acc : List CV) (st : St) (r : List CV × St) : Prop
  | intro m (f1 : n = m + 1) (f2 : stepG (run P m) it ts conds elt acc st = some r)
theorem run_g {P : Prog} {n : Nat} {it : It} {ts : List Nat} {conds : List CE} {elt : CE} {acc : List CV} {st : St} {r : List CV × St} (h : (run P n).g it ts conds elt acc st = some r) : run_gR P n it ts conds elt acc st r := by
  cases n with
  | zero => (first | exact nope h | refine rt_elim h ?_ | cases h)
  | succ m => exact ⟨m, rfl, h⟩
theorem g_len {P : Prog} : ∀ {n : Nat} {it : It} {ts : List Nat} {conds : List CE} {elt : CE} {acc : List CV} {st : St} {r : List CV × St}, (run P n).g it ts conds elt acc st = some r → acc.length ≤ r.1.length := by
  intro n
  induction n with
  | zero => intro it ts conds elt acc st r h; (first | exact nope h | refine rt_elim h ?_ | cases h)
  | succ m ih =>
    intro it ts conds elt acc st r h
    have h : stepG (run P m) it ts conds elt acc st = some r := h
    unfold stepG at h
    cases q : nextI it st with
    | none => rw [q] at h; (first | exact nope h | refine rt_elim h ?_ | cases h)
    | some o =>
      rw [q] at h
      induction o with
      | none => (first | exact nope h | refine rt_elim h ?_ | cases h); exact Nat.le_refl _
      | some p =>
        obtain ⟨x, it'⟩ := p
        replace h := bnd_some h
        obtain ⟨y, st1, h1, h⟩ := h
        replace h := bnd_some h
        obtain ⟨ok, st2, h2, h⟩ := h
        induction ok with
        | true =>
          replace h := bnd_some h
          obtain ⟨v, st3, h3, h⟩ := h
          have := ih h
          simp at this; omega
        | false => exact ih h
noncomputable def listO (vs : Array Value) (n : Nat) : Obj := { cls := .type "list", data := .seq vs n }
inductive GStep (T : Tx) (n : Nat) (it : It) (ts : List Nat) (conds : List CE) (elt : CE) (acc : List CV) (st : St) (r : List CV × St) : Prop
  | stop (k : Nat) (e : n = k + 1) (q : nextI it st = some none) (h : (acc, st) = r)
  | turn (k : Nat) (x : Item) (it2 : It) (y : Unit) (st3 : St) (ok : Bool) (st4 : St) (e : n = k + 1) (q : nextI it st = some (some (x, it2))) (h3 : asgI (tsT ts) x st = some (y, st3)) (h4 : allT (run T.P k) conds st3 = some (ok, st4))
      (h : (if ok then bnd ((run T.P k).e elt) fun v => (run T.P k).g it2 ts conds elt (acc ++ [v]) else (run T.P k).g it2 ts conds elt acc) st4 = some r)
theorem g_step {n : Nat} {it : It} {ts : List Nat} {conds : List CE} {elt : CE} {acc : List CV} {st : St} {r : List CV × St} (h : (run T.P n).g it ts conds elt acc st = some r) : GStep T n it ts conds elt acc st r := by
  replace h := run_g h
  obtain ⟨k, e, h⟩ := h
  unfold stepG at h
  cases q : nextI it st with
  | none => rw [q] at h; exact nope h
  | some r =>
    rw [q] at h
    induction r with
    | none => exact .stop k e q (Option.some.inj h)
    | some p =>
      obtain ⟨x, it'⟩ := p
      replace h := bnd_some h
      obtain ⟨y, st3, h3, h⟩ := h
      replace h := bnd_some h
      obtain ⟨fl, st4, h4, h⟩ := h
      exact .turn k x it' y st3 fl st4 e q h3 h4 h
inductive CompInv (T : Tx) (S' : Sit) (ρ1 : Rho) (D : Addr) (m : Nat) (v : Value) (ts : List Nat) (conds : List CE) (elt : CE) (vs : List CV) (stF : St) (s : Shared) (k : Nat) (s' : Shared) : Prop
  | intro (ρ' : Rho) (st2 : St) (L' : List (Addr × Obj)) (ws : Array Value) (n : Nat) (acc : List CV) (it' : It) (f1 : k ≤ m) (f2 : Hid T.W S' ρ1 ([(D, listO ws n)] ++ L') ρ' st2 s'.heap) (f3 : ∀ p ∈ L', p.1 ≠ D) (f4 : VRels ρ' acc ws.toList) (f5 : ItRel T.W ρ' L' v it')
      (f6 : (run T.P k).g it' ts conds elt acc st2 = some (vs, stF)) (f7 : Same s s')
section
variable {S S' : Sit} {ρ ρ1 ρ' : Rho} {st1 st2 stF : St} {L L' : List (Addr × Obj)} {hp h : Heap} {n : Nat} {ws : Array Value} {vs : List CV}
theorem comp_end {C : Addr} {W : Wd} {ρa : Rho} (st0 : ∃ st0 h0, Ok W S ρ st0 h0) (e1 : Ext ρ ρ1) (H1 : Hid W S ρa L ρ1 st1 hp) (hB : ∀ a o, hp.get? a = some o → a ∉ L.map (·.1) → S'.B a o) (hloc : S'.env.locals = C) (hCle : hp.objs.size ≤ C) (hDC : hp.objs.size ≠ C) (E1 : Ext ρ1 ρ') (O3 : Ok W (S'.plus [(hp.objs.size, listO ws n)]) ρ' st2 h)
    (hacc : VRels ρ' vs ws.toList) (hu : vs.all (under st1.heap.length) = true) :
    ∃ oC es ep, Ext ρ1 (ρ1 ++ [[hp.objs.size]]) ∧ Hid W S ρ [(C, oC)] (ρ1 ++ [[hp.objs.size]]) { st1 with heap := st1.heap ++ [.list vs] } h ∧ oC.data = .dict es ep ∧ StrKeys es ∧ VRel (ρ1 ++ [[hp.objs.size]]) (.ref st1.heap.length) (.ref hp.objs.size) := by
  have hD3 : 3 < hp.objs.size := H1.bare.rel.sz
  have hlen := H1.bare.rel.len
  have Of : Ok W S ρ1 st1 h := H1.bare.off H1.offs fun b o hb e => O3.rel.base b o (.inl (hB b o e hb))
  have hDo : h.get? hp.objs.size = some (listO ws n) := O3.rel.base _ _ (.inr (.head _))
  have hDn : ∀ o, ¬ S.B hp.objs.size o := fun o e => by have := H1.bare.rel.base _ _ e; rw [get_big (Nat.le_refl _)] at this; exact nope this
  have hCn : ∀ o, ¬ S.B C o := fun o e => by have := H1.bare.rel.base _ _ e; rw [get_big hCle] at this; exact nope this
  have hown : ∀ a ∈ own S.env S.cs ρ1 st1.lo, a < hp.objs.size := fun a ha => H1.bare.rel.lt ha
  have om : ∀ {a : Addr}, a ∈ own S.env S.cs (ρ1 ++ [[hp.objs.size]]) st1.lo → a ∈ own S.env S.cs ρ1 st1.lo ∨ a = hp.objs.size := fun {a} q => by
    rw [own_more (by rw [hlen]; exact H1.bare.rel.lo)] at q
    exact (List.mem_append.mp q).imp_right List.mem_singleton.mp
  have Oa : Ok W S (ρ1 ++ [[hp.objs.size]]) { st1 with heap := st1.heap ++ [.list vs] } h :=
    ⟨Of.base, Of.blt, Of.env, fun i b e => Ext.get ⟨_, rfl⟩ (Of.top i b e), Of.ctx, Of.lo, Of.dep, Of.rel.adopt (os := [listO ws n]) (fun a ha => by
      rw [List.mem_singleton.mp ha]
      exact ⟨fun q => absurd (hown _ q) (Nat.lt_irrefl _), hDn, hD3⟩) (by simp) ⟨hDo, trivial⟩ ⟨_, ws, n, rfl, rfl, (VRels.low E1 (by rw [hlen]; exact hu) hacc).mono ⟨_, rfl⟩⟩, fun p hp => (Of.frs p hp).to (fun o e => e) fun q =>
        (om q).elim (Of.frs p hp).2.1 fun q => H1.bare.frFresh (Nat.le_refl _) (List.mem_map.mpr ⟨p, hp, q⟩), Of.trk⟩
  obtain ⟨mC, ⟨oC, es, ep, c1, c2, c3, c4⟩, _⟩ := O3.rel.ns
  have c1 : h.get? C = some oC := by rw [← hloc]; exact c1
  refine ⟨oC, es, ep, ⟨_, rfl⟩, ⟨st0, e1.trans ⟨_, rfl⟩, fun p hp o => ?_, Oa.plus fun p hp => ?_⟩, c2, c3, _, [], ?_, rfl⟩
  · rw [List.mem_singleton.mp hp]; exact hCn o
  · rw [List.mem_singleton.mp hp]
    exact ⟨c1, fun q => (om q).elim (fun q => absurd (hown _ q) (Nat.not_lt.mpr hCle)) fun q => hDC q.symm, H1.bare.frFresh hCle⟩
  · rw [← hlen, List.getElem?_append_right (Nat.le_refl _), Nat.sub_self]; rfl
end
theorem comp_turn {T' : Tx} {S' : Sit} {ρ1 : Rho} {Dr : Addr} {m : Nat} {v : Value} {ts : List Nat} {conds : List CE} {elt : CE} {vs : List CV} {stF : St} {s : Shared} {R : Result → Shared → Prop} {tgt relt : Expr} {ifs : List Expr} (ht : SG T' (tsT ts) tgt) (hc : STs T' conds ifs) (he : SE T' elt relt) (Cm : Calls T'.P T'.W m) (I' : T'.In S') (hl : vs.length ≤ 1000000)
    (fin : ∀ {ρ' : Rho} {ws : Array Value} {n : Nat} {s3 : Shared}, Ext ρ1 ρ' → VRels ρ' vs ws.toList → Ok T'.W (S'.plus [(Dr, listO ws n)]) ρ' stF s3.heap → Same s s3 → R (.ok .next) s3) {k : Nat} {s' : Shared} (i : CompInv T' S' ρ1 Dr m v ts conds elt vs stF s k s') :
    CompTurn T'.W.prog T'.W.w S'.A R relt tgt ifs v (.ref Dr) S'.env (fun k s' => CompInv T' S' ρ1 Dr m v ts conds elt vs stF s k s') k s' := by
  obtain ⟨ρ', st2, L', ws, n, acc, it', hk, H, hd, hacc, hI, hrun, ms⟩ := i
  have hlen := g_len hrun
  have HP := H.part (L1 := [(Dr, listO ws n)]) fun p hp q hq => by rw [List.mem_singleton.mp hq]; exact hd p hp
  replace hrun := g_step hrun
  rcases hrun with ⟨j, rfl, q, hrun⟩ | ⟨j, x, it2, y, st3, ok, st4, rfl, q, h3, h4, hrun⟩
  · obtain ⟨ea, eb⟩ := pair_inv hrun
    subst acc; subst eb
    exact next_none HP hI q fun s3 O3 m3 => fin H.ext hacc O3 (ms.trans m3)
  · have Cj : Calls T'.P T'.W j := fun i hi => Cm i (by omega)
    unfold CompTurn
    refine next_turn HP hI q (ht.fits h3) (fun u s1 hr => hr) fun u s3 L3 H3 I3 hu3 m3 => ?_
    obtain ⟨H4, hd4⟩ := H3.whole H
    have hd4 : ∀ p ∈ L3, p.1 ≠ Dr := fun p hp => hd4 p hp _ (.head _)
    refine ht.does (In.plus I') H4.ok h3 hu3 _ _ fun _ ρ5 s5 e5 O5 _ m5 => ?_
    refine tests_sound hc Cj (In.plus I') O5 h4 _ _ fun ok' ρ6 s6 e6 O6 p6 m6 => ?_
    subst p6
    have ee : Ext ρ' ρ6 := e5.trans e6
    have mm : Same s s6 := ((ms.trans m3).trans m5).trans m6
    induction ok' with
    | false => exact ⟨j, Nat.lt_succ_self _, ρ6, st4, L3, ws, n, acc, it2, by omega, H4.after ee O6, hd4, hacc.mono ee, I3.mono ee, hrun, mm⟩
    | true =>
      replace hrun := bnd_some hrun
      obtain ⟨c, st7, h7, hrun⟩ := hrun
      refine he j Cj (In.plus I') O6 h7 _ _ fun uc ρ7 s7 e7 O7 p7 m7 => ?_
      have H7 := H4.after (ee.trans e7) O7
      have hlen2 : acc.length ≤ 1000000 := Nat.le_trans hlen hl
      have hlen3 := hacc.length
      simp only [Array.length_toList] at hlen3
      refine append_at (H7.at (.head _)) (fun h' hS hD' => ?_) (by rw [sizeLine_is]; omega)
      refine ⟨j, Nat.lt_succ_self _, ρ7, st7, L3, ws.push uc, n + 1, acc ++ [c], it2, by omega, H7.turn (fun b o hb e => hS.extBut b o (fun q => hb (by simp [q])) e) fun p hp => ?_, hd4, ?_, I3.mono (ee.trans e7), hrun, (mm.trans m7).trans Same.rfl⟩
      · rcases List.mem_cons.mp hp with rfl | hp
        · exact ⟨hD', .inl (by simp)⟩
        · exact ⟨hS.extBut _ _ (hd4 p hp) (H7.at (List.mem_append.mpr (.inr hp))), .inl (by simp only [List.map_append, List.mem_append]; exact .inr (List.mem_map.mpr ⟨p, hp, rfl⟩))⟩
      · rw [Array.toList_push]
        exact (hacc.mono (ee.trans e7)).append ⟨p7, trivial⟩
theorem comp_hid {W : Wd} {S S' : Sit} {ρ ρ1 : Rho} {st1 st' : St} {L : List (Addr × Obj)} {hp h1 : Heap} {C : Addr} {o : Obj} (H1 : Hid W S ρ L ρ1 st1 hp) (O0 : Ok W S' ρ1 st' h1) (hB : ∀ a o, S'.B a o → hp.get? a = some o ∧ a ∉ L.map (·.1)) (hfr : S'.fr = []) (hcs : own S'.env S'.cs ρ1 st'.lo = [C]) (kp : ∀ b o, hp.get? b = some o → h1.get? b = some o) (hCle : hp.objs.size ≤ C) (hDC : hp.objs.size ≠ C) (hD : h1.get? hp.objs.size = some o) : Hid W S' ρ1 ((hp.objs.size, o) :: L) ρ1 st' h1 := by
  refine ⟨⟨_, _, O0⟩, Ext.refl _, fun p hp o e => ?_, O0.plus fun p hp => ?_⟩
  · have e := hB _ _ e
    rcases List.mem_cons.mp hp with rfl | hp
    · rw [get_big (Nat.le_refl _)] at e; exact nope e.1
    · exact e.2 (List.mem_map.mpr ⟨p, hp, rfl⟩)
  · rw [hcs, hfr]
    rcases List.mem_cons.mp hp with rfl | hp
    · exact ⟨hD, fun q => hDC (List.mem_singleton.mp q), List.not_mem_nil⟩
    · have g := H1.at (a := p.1) (o := p.2) hp
      refine ⟨kp _ _ g, fun q => ?_, List.not_mem_nil⟩
      rw [List.mem_singleton.mp q] at g
      exact absurd (Heap.lt_size g) (Nat.not_lt.mpr hCle)
theorem comp_core {scope : Scope} {ks : Kinds} {ts : List Nat} {ci : CI} {conds : List CE} {elt : CE} {tgt iter relt : Expr} {ifs : List Expr} {pos ps : Pos} (K : CompOk T scope ks ts) (hi : SI T ci iter) (ht : SG ⟨T.P, T.W, relS scope T.sc, ks⟩ (tsT ts) tgt)
    (hc : STs ⟨T.P, T.W, relS scope T.sc, ks⟩ conds ifs) (he : SE ⟨T.P, T.W, relS scope T.sc, ks⟩ elt relt) (hs : ∀ env x, foldedSetIterable iter env x = pure x) {m : Nat} (Cm : Calls T.P T.W m) {S : Sit} {ρ : Rho} {st st1 : St} {s : Shared} {it : It} {vs : List CV} {stF : St} {use : Option (Value → Sem Unit)}
    (I : T.In S) (O : Ok T.W S ρ st s.heap) (h1 : evI (run T.P m) ci st = some (it, st1)) (hg : (run T.P m).g it ts conds elt [] { st1 with loc := clearL ts st1.loc, lo := st1.heap.length, dep := min st1.dep 20 } = some (vs, stF)) (hu : vs.all (under st1.heap.length) = true) (hl : lenOk vs = true)
    {Q E : Value → Shared → Prop}
    (fin : ∀ D C oC es ep s' ρ2, Ext ρ ρ2 → Hid T.W S ρ [(C, oC)] ρ2 { st1 with heap := st1.heap ++ [.list vs] } s'.heap → oC.data = .dict es ep → StrKeys es → VRel ρ2 (.ref st1.heap.length) (.ref D) → Same s s' → compPost (model T.W.prog T.W.w) S.A E use Q (.ref D) C (.ok .next) s') :
    wpAny (model T.W.prog T.W.w) S.A (comprehension (.ListComp relt [⟨tgt, iter, ifs, 0⟩] scope pos) scope S.env ps (newList []) false (eval iter S.env) use) Q E s := by
  have hsc : relabel scope S.env = relS scope T.sc := by rw [← I.sc]; rfl
  refine wpAny_comprehension_free (use := use) rfl (hs _) (comp_clo K I O) K.kind (fun x hx e => lookup_of_mem K.nodup (by rw [← e]; exact hx)) (hi m Cm I O h1 _ _ fun v ρ1 s2 L e1 H1 I1 m1 => ?_)
  refine wpAny_newObj_type (wpAny_newFunctionEnv K.nocell (by intro y hy; simp at hy) (fun h₁ hns₁ hsb₁ => ?_) K.kind)
  dsimp only at hns₁ hsb₁ ⊢
  generalize hH2 : s2.heap.push { cls := .type "list", dict := none, data := .seq ([] : List Value).toArray } = H2 at hns₁ hsb₁ ⊢
  have hC : H2.objs.size = s2.heap.objs.size + 1 := by rw [← hH2, Heap.size_push]
  have hDC : s2.heap.objs.size ≠ H2.objs.size := by rw [hC]; exact Nat.ne_of_lt (Nat.lt_succ_self _)
  have hCle : s2.heap.objs.size ≤ H2.objs.size := by rw [hC]; exact Nat.le_succ _
  have kp : ∀ b o, s2.heap.get? b = some o → h₁.get? b = some o := fun b o e => hsb₁.extBut b o (by have := Heap.lt_size e; intro q; rw [q, hC] at this; exact absurd this (Nat.not_lt.mpr (Nat.le_succ _))) (Heap.get?_push_of_some _ (hH2 ▸ Heap.get?_push_of_some _ e))
  have hD : h₁.get? s2.heap.objs.size = some (listO #[] 0) := hsb₁.extBut _ _ hDC (Heap.get?_push_of_some _ (hH2 ▸ Heap.get?_push_size _ rfl))
  have O0 := comp_start (C := H2.objs.size) K I H1 kp hCle hns₁
  have loop : ∀ tk, codeAny (model T.W.prog T.W.w) S.A (.compLoop (.ListComp relt [⟨tgt, iter, ifs, 0⟩] scope pos) 0 v (.ref s2.heap.objs.size) (compEnvC scope (cloL S.env.cells scope.names []) H2.objs.size S.env))
      (compPost (model T.W.prog T.W.w) S.A E use Q (.ref s2.heap.objs.size) H2.objs.size) { s2 with heap := h₁, toks := tk } := fun tk =>
    comp_loop _ (fun _ _ i => comp_turn (T' := ⟨T.P, T.W, relS scope T.sc, ks⟩) (S' := S.comp s2.heap L (compEnvC scope (cloL S.env.cells scope.names []) H2.objs.size S.env) ks st1.heap.length) ht hc he Cm ⟨hsc, rfl⟩ (lenOk_le hl) (fun E1 hacc O3 ms => by
        obtain ⟨oC, es, ep, f1, f2, f3, f4, f5⟩ := comp_end (C := H2.objs.size) ⟨_, _, O⟩ e1 H1 (fun a o e q => by exact ⟨e, q⟩) rfl hCle hDC E1 O3 hacc hu
        exact fin s2.heap.objs.size H2.objs.size oC es ep _ _ (e1.trans f1) f2 f3 f4 f5 ms) i) m
      ⟨ρ1, _, L, #[], 0, [], it, Nat.le_refl _, comp_hid H1 O0 (fun _ _ e => e) rfl (by
        unfold own
        rw [show List.drop st1.heap.length ρ1 = [] by rw [← H1.bare.rel.len, List.drop_length]]; rfl) kp hCle hDC hD, fun p hp q => (by
        have g := H1.at (a := p.1) (o := p.2) hp
        rw [q] at g
        exact absurd (Heap.lt_size g) (Nat.lt_irrefl _)), trivial, I1, hg, m1.trans Same.rfl⟩
  refine codeAny_compStart_list (loop _) ?_
  refine iter_self (W := T.W) (S := S) (s := { s2 with heap := h₁, toks := _ }) (ρ := ρ1) (ρ0 := ρ1) (st := st1) (L := L) ?_ I1 (loop _)
  exact ⟨⟨_, _, H1.bare⟩, Ext.refl _, H1.new, H1.ok.keeps kp⟩
end
end Mine
end

section
set_option genSizeOf false
set_option genInjectivity false
namespace Mine
section
variable {T : Tx}
inductive comp_someR (m : Nat) (elt : CE) (ts : List Nat) (ci : CI) (conds : List CE) (st : St) (st' : St) (v : CV) : Prop
  | intro it st1 vs stF (f1 : evI (run T.P m) ci st = some (it, st1)) (f2 : (run T.P m).g it ts conds elt [] { st1 with loc := clearL ts st1.loc, lo := st1.heap.length, dep := min st1.dep 20 } = some (vs, stF)) (f3 : vs.all (under st1.heap.length) = true) (f4 : lenOk vs = true) (f5 : v = .ref st1.heap.length) (f6 : st' = { st1 with heap := st1.heap ++ [.list vs] })
theorem comp_some {m : Nat} {elt : CE} {ts : List Nat} {ci : CI} {conds : List CE} {st st' : St} {v : CV} (h : stepE T.P (run T.P m) (.comp elt ts ci conds) st = some (v, st')) :
comp_someR (T := T) m elt ts ci conds st st' v := by
  unfold stepE at h
  replace h := bnd_some h
  obtain ⟨it, st1, h1, h⟩ := h
  dsimp only at h
  cases q : (run T.P m).g it ts conds elt [] { st1 with loc := clearL ts st1.loc, lo := st1.heap.length, dep := min st1.dep 20 } with
  | none => rw [q] at h; (first | exact nope h | refine rt_elim h ?_ | cases h)
  | some p =>
    obtain ⟨vs, stF⟩ := p
    rw [q] at h
    dsimp only at h
    (first | (replace h := if_inv h; obtain ⟨c, h⟩ := h) | (replace h := if_inv2 h; obtain ⟨c, h⟩ := h) | (split at h; rotate_left; (focus cases h); rename_i c))
    · rw [Bool.and_eq_true] at c
      (first | exact nope h | refine rt_elim h ?_ | cases h)
      exact ⟨it, st1, vs, stF, h1, q, c.1, c.2, rfl, rfl⟩
theorem SE.comp {scope : Scope} {ks : Kinds} {ts : List Nat} {ci : CI} {conds : List CE} {elt : CE} {tgt iter relt : Expr} {ifs : List Expr} {pos : Pos} (K : CompOk T scope ks ts) (hi : SI T ci iter) (ht : SG ⟨T.P, T.W, relS scope T.sc, ks⟩ (tsT ts) tgt)
    (hc : STs ⟨T.P, T.W, relS scope T.sc, ks⟩ conds ifs) (he : SE ⟨T.P, T.W, relS scope T.sc, ks⟩ elt relt) (hs : ∀ env x, foldedSetIterable iter env x = pure x := by intro _ _; rfl) :
    SE T (.comp elt ts ci conds) (.ListComp relt [⟨tgt, iter, ifs, 0⟩] scope pos) := fun n C S ρ st st' s v I O h => by
  replace h := run_e h
  obtain ⟨m, rfl, h⟩ := h
  obtain ⟨it, st1, vs, stF, h1, hg, hu, hl, rfl, rfl⟩ := comp_some h
  intro Q E hQ
  rw [eval_ListComp]
  refine comp_core (use := none) K hi ht hc he hs C.down I O h1 hg hu hl fun D C oC es ep s' ρ2 e2 H c2 c3 hv ms => ?_
  refine ⟨fun y => nsFind es y, ⟨oC, es, ep, H.at (.head _), c2, c3, fun _ => rfl⟩, fun h' hS => ?_⟩
  exact hQ _ ρ2 _ e2 (H.done fun b o hb e => hS.extBut b o (not_mem1 hb) e) hv (ms.trans Same.rfl)
noncomputable def swapB (sc scope : Scope) (x : Str) (l l' : Nat) : Bool := sc.names.lookup x == some .local && l == l' && !(scope.names.any fun (n, k) => n == x && (k == .local || k == .cell))
theorem swaps_is {env : Env} {sc scope : Scope} {x : Str} {gens : List Comprehension} {relt : Expr} {pos pos' : Pos} {l : Nat} (h : env.scope = sc) (hk : sc.kind = .function) :
    swapsWith (.ListComp relt gens scope pos) (some (.Name x pos')) l env = pure (swapB sc scope x pos'.line pos.line) := by
  unfold swapsWith
  show (pure _ : Sem Bool) = _
  have : env.blockKind = .function := by unfold Env.blockKind; rw [h, hk]; rfl
  unfold Env.kindOf
  rw [this, h]
  rfl
theorem SS.assignC {i : Nat} {x : Str} {k : SK} {scope : Scope} {ks : Kinds} {ts : List Nat} {ci : CI} {conds : List CE} {elt : CE} {tgt iter relt : Expr} {ifs : List Expr} {pos pos' spos : Pos} (hk : T.ks[i]? = some (x, k)) (K : CompOk T scope ks ts) (hi : SI T ci iter) (ht : SG ⟨T.P, T.W, relS scope T.sc, ks⟩ (tsT ts) tgt)
    (hc : STs ⟨T.P, T.W, relS scope T.sc, ks⟩ conds ifs) (he : SE ⟨T.P, T.W, relS scope T.sc, ks⟩ elt relt) (hs : ∀ env x, foldedSetIterable iter env x = pure x := by intro _ _; rfl) (ho : k = .loc ∨ k = .cell := by decide) :
    SS T (.assign (.var i) (.comp elt ts ci conds)) (.Assign [.Name x pos'] (.ListComp relt [⟨tgt, iter, ifs, 0⟩] scope pos) spos) := fun n C S ρ st st' s f I O h => by
  replace h := run_s h
  obtain ⟨m, rfl, h⟩ := h
  unfold stepS at h
  replace h := bnd_some h
  obtain ⟨v, st1, h1, h⟩ := h
  replace h := bnd_some h
  obtain ⟨v2, st2, h2, h⟩ := h
  (first | exact nope h | refine rt_elim h ?_ | cases h)
  intro Q E hQ
  have hfk : T.sc.kind = .function := by rw [← I.sc]; exact O.env.kind
  have hsw := swaps_is (x := x) (relt := relt) (gens := [⟨tgt, iter, ifs, 0⟩]) (scope := scope) (pos := pos) (pos' := pos') (l := spos.line) I.sc hfk
  cases q : swapB T.sc scope x pos'.line pos.line with
  | false =>
    rw [q] at hsw
    refine wpAny_Assign_Name (SE.comp K hi ht hc he hs m C.down I O h1 _ _ fun c' ρ1 s1 e1 O1 p1 m1 => store_sound O1 (by rw [I.ks]; exact hk) ho h2 p1 _ _ fun _ ρ2 s2 e2 O2 _ m2 => ?_) hsw
    exact hQ _ _ _ (e1.trans e2) O2 rfl (m1.trans m2)
  | true =>
    rw [q] at hsw
    rw [exec_Assign_Name_used _ _ _ _ hsw]
    refine wpAny_bind (wpAny_standAt (wpAny_bind ?_))
    show wpAny _ _ (do let _ ← comprehension (.ListComp relt [⟨tgt, iter, ifs, 0⟩] scope pos) scope S.env _ (newList []) false (eval iter S.env) (some (PySem.assign (.Name x pos') S.env))) _ _ s
    replace h1 := run_e h1
    obtain ⟨m', rfl, h1⟩ := h1
    obtain ⟨it, st3, vs, stF, g1, hg, hu, hl, rfl, rfl⟩ := comp_some h1
    refine wpAny_bind (wpAny_mono (comp_core (use := some (PySem.assign (.Name x pos') S.env)) (Q := fun _ s' => Q .next s') K hi ht hc he hs C.down.down I O g1 hg hu hl fun D Ca oC es ep s' ρ2 e2 H c2 c3 hv ms => ?_) (fun _ s' hq => wpAny_pure (wpAny_pure hq)) fun _ _ e => e)
    show wpAny _ _ (PySem.assign (.Name x pos') S.env (.ref D)) _ _ _
    refine wpAny_assign_Name (store_sound (S := S.plus [(Ca, oC)]) H.ok (show S.ks[i]? = _ by rw [I.ks]; exact hk) ho h2 hv _ _ fun _ ρ3 s3 e3 O3 _ m3 => ?_)
    have H3 := H.after e3 O3
    refine ⟨fun y => nsFind es y, ⟨oC, es, ep, H3.at (.head _), c2, c3, fun _ => rfl⟩, fun h' hS => ?_⟩
    exact hQ _ ρ3 _ (e2.trans e3) (H3.done fun b o hb e => hS.extBut b o (not_mem1 hb) e) rfl ((ms.trans m3).trans Same.rfl)
end
end Mine
end

section
set_option genSizeOf false
set_option genInjectivity false
namespace Mine
theorem isTup_of {h : Heap} {a : Addr} {vs : Array Value} {n : Nat} (e : h.get? a = some { cls := .type "tuple", data := .seq vs n }) : IsTup h a vs := ⟨_, e, rfl, n, rfl⟩
theorem look1 {W : Wd} {S : Sit} {ρ : Rho} {st st' : St} {s : Shared} {f : Value} {a v : CV} {us : List Value} {k : Nat × CO → M CV} (_O : Ok W S ρ st s.heap) (h : bnd (look a) k st = some (v, st')) (hv : VRels ρ [a] us)
    (go : ∀ i co u, st.heap[i]? = some co → VRel ρ (.ref i) u → us = [u] → k (i, co) st = some (v, st') → Does W S ρ s (call f us) st' (fun ρ' r => VRel ρ' v r)) : Does W S ρ s (call f us) st' (fun ρ' r => VRel ρ' v r) := by
  (replace hv := hv.one; obtain ⟨u, rfl, hu⟩ := hv)
  replace h := bnd_some h
  obtain ⟨⟨i, co⟩, st1, h1, h⟩ := h
  (replace h1 := look_some h1; obtain ⟨rfl, e2, rfl⟩ := h1)
  exact go i co u e2 hu rfl h
theorem prim_len : PrimOk .len (.builtin "len") := fun {W S ρ st st' s vs us v} O h hv => by
  match vs, h, hv with
  | [a], h, hv =>
    refine look1 O h hv fun i co u e2 hu e h => ?_
    subst e
    induction co with
    | list xs =>
      dsimp only at h
      (first | (replace h := if_inv h; obtain ⟨q, h⟩ := h) | (replace h := if_inv2 h; obtain ⟨q, h⟩ := h) | (split at h; rotate_left; (focus cases h); rename_i q))
      · (first | exact nope h | refine rt_elim h ?_ | cases h)
        obtain ⟨a, ws, n, rfl, g0, g1, g2⟩ := O.list e2 hu
        have := g2.length
        have l := lenOk_le q
        simp only [Array.length_toList] at this
        refine Does.tok O fun Q E hQ => Calls.call_len_list ⟨_, g1, rfl, n, rfl⟩ (by omega) (hQ _ _ ⟨_, by rw [this]⟩)
    | tuple xs =>
      dsimp only at h
      (first | (replace h := if_inv h; obtain ⟨q, h⟩ := h) | (replace h := if_inv2 h; obtain ⟨q, h⟩ := h) | (split at h; rotate_left; (focus cases h); rename_i q))
      · (first | exact nope h | refine rt_elim h ?_ | cases h)
        obtain ⟨a, ws, n, rfl, g0, g1, g2⟩ := O.tuple e2 hu
        have := g2.length
        have l := lenOk_le q
        simp only [Array.length_toList] at this
        refine Does.tok O fun Q E hQ => len_tuple (isTup_of g1) (by omega) (hQ _ _ ⟨_, by rw [this]⟩)
    | _ => (first | exact nope h | refine rt_elim h ?_ | cases h)
  | [], h, _ => (first | exact nope h | refine rt_elim h ?_ | cases h)
  | _ :: _ :: _, h, _ => (first | exact nope h | refine rt_elim h ?_ | cases h)
theorem prim_int : PrimOk .int (.type "int") := fun {W S ρ st st' s vs us v} O => by
  match vs with
  | [.int i] =>
    intro h hv
    (first | exact nope h | refine rt_elim h ?_ | cases h)
    (replace hv := hv.one; obtain ⟨u, rfl, t, rfl⟩ := hv)
    exact Does.tok O fun Q E hQ => call_int_int (hQ _ s.toks ⟨_, rfl⟩)
  | [] => intro h _; (first | exact nope h | refine rt_elim h ?_ | cases h)
  | c :: _ :: _ => intro h _; (first | exact nope h | (cases c <;> exact nope h))
  | [.none] => intro h _; (first | exact nope h | refine rt_elim h ?_ | cases h)
  | [.bool _] => intro h _; (first | exact nope h | refine rt_elim h ?_ | cases h)
  | [.str _] => intro h _; (first | exact nope h | refine rt_elim h ?_ | cases h)
  | [.ref _] => intro h _; (first | exact nope h | refine rt_elim h ?_ | cases h)
  | [.lit _] => intro h _; (first | exact nope h | refine rt_elim h ?_ | cases h)
theorem prim_tuple : PrimOk .tupleOf (.type "tuple") := fun {W S ρ st st' s vs us v} O h hv => by
  match vs, h, hv with
  | [a], h, hv =>
    refine look1 O h hv fun i co u e2 hu e h => ?_
    subst e
    induction co with
    | list xs =>
      dsimp only at h
      (first | (replace h := if_inv h; obtain ⟨q, h⟩ := h) | (replace h := if_inv2 h; obtain ⟨q, h⟩ := h) | (split at h; rotate_left; (focus cases h); rename_i q))
      · (replace h := alloc_some h; obtain ⟨rfl, rfl⟩ := h)
        obtain ⟨a, ws, n, rfl, g0, g1, g2⟩ := O.list e2 hu
        have := g2.length
        have l := lenOk_le q
        simp only [Array.length_toList] at this
        intro Q E hQ
        refine call_tuple_list ⟨_, g1, rfl, n, rfl⟩ (fun h' kp => ?_) (by rw [sizeLine_is]; omega)
        exact hQ _ _ _ ⟨_, rfl⟩ ((O.keeps kp).push (co := .tuple xs) rfl fun ρ' hE => ⟨_, _, 0, rfl, rfl, g2.mono hE⟩) (O.newRef _) Same.rfl
    | _ => (first | exact nope h | refine rt_elim h ?_ | cases h)
  | [], h, _ => (first | exact nope h | refine rt_elim h ?_ | cases h)
  | _ :: _ :: _, h, _ => (first | exact nope h | refine rt_elim h ?_ | cases h)
theorem prim_list : PrimOk .listOf (.type "list") := fun {W S ρ st st' s vs us v} O h hv => by
  match vs, h, hv with
  | [a], h, hv =>
    refine look1 O h hv fun i co u e2 hu e h => ?_
    subst e
    induction co with
    | tuple xs =>
      dsimp only at h
      (first | (replace h := if_inv h; obtain ⟨q, h⟩ := h) | (replace h := if_inv2 h; obtain ⟨q, h⟩ := h) | (split at h; rotate_left; (focus cases h); rename_i q))
      · (replace h := alloc_some h; obtain ⟨rfl, rfl⟩ := h)
        obtain ⟨a, ws, n, rfl, g0, g1, g2⟩ := O.tuple e2 hu
        have := g2.length
        have l := lenOk_le q
        simp only [Array.length_toList] at this
        intro Q E hQ
        refine call_list_seq a (.inr rfl) g1 rfl rfl (fun h' c' kp hD => ?_) (by rw [sizeLine_is]; omega)
        refine hQ _ _ _ ⟨_, rfl⟩ (O.alloc kp (as := [s.heap.objs.size]) (os := [_]) (co := .list xs) (fun b hb => ?_) (by simp) ⟨hD, trivial⟩ ⟨_, ws, c', rfl, rfl, g2.mono ⟨_, rfl⟩⟩) (O.newRef _) Same.rfl
        rw [List.mem_singleton.mp hb]; exact ⟨Heap.get_size _, Nat.le_refl _⟩
    | _ => (first | exact nope h | refine rt_elim h ?_ | cases h)
  | [], h, _ => (first | exact nope h | refine rt_elim h ?_ | cases h)
  | _ :: _ :: _, h, _ => (first | exact nope h | refine rt_elim h ?_ | cases h)
theorem prim_append : PrimOk .append (.builtin "list.append") := fun {W S ρ st st' s vs us v} O => by
  match vs with
  | [a, b] =>
    intro h hv
    (replace hv := hv.two; obtain ⟨u, w, rfl, hu, hw⟩ := hv)
    replace h := bnd_some (c := look a) h
    obtain ⟨⟨i, co⟩, st1, h1, h⟩ := h
    (replace h1 := look_some h1; obtain ⟨rfl, e2, rfl⟩ := h1)
    dsimp only at h e2
    (replace h := on_list h; obtain ⟨xs, rfl, h⟩ := h)
    try dsimp only at h
    (first | (replace h := if_inv h; obtain ⟨q, h⟩ := h) | (replace h := if_inv2 h; obtain ⟨q, h⟩ := h) | (split at h; rotate_left; (focus cases h); rename_i q))
    · replace h := bnd_some h
      obtain ⟨y, st2, h2, h⟩ := h
      (first | exact nope h | refine rt_elim h ?_ | cases h)
      (replace h2 := put_some h2; obtain ⟨hlo, rfl⟩ := h2)
      obtain ⟨a, ws, n, rfl, g0, g1, g2⟩ := O.list e2 hu
      have := g2.length
      have l := lenOk_le q
      simp only [Array.length_toList] at this
      intro Q E hQ
      refine append_at g1 (fun h' hS hD => hQ _ ρ _ (Ext.refl _) (O.update g0 e2 hlo (same_kp hS) (os' := [_]) ⟨hD, trivial⟩ ⟨a, _, _, rfl, rfl, ?_⟩) rfl Same.rfl) (by rw [sizeLine_is]; omega)
      rw [Array.toList_push]
      exact g2.append ⟨hw, trivial⟩
  | [] => intro h _; (first | exact nope h | refine rt_elim h ?_ | cases h)
  | [_] => intro h _; (first | exact nope h | refine rt_elim h ?_ | cases h)
  | _ :: _ :: _ :: _ => intro h _; (first | exact nope h | refine rt_elim h ?_ | cases h)
theorem prim_set : PrimOk .setNew (.type "set") := fun {W S ρ st st' s vs us v} O => by
  match vs with
  | [] =>
    intro h hv
    have := hv.zero
    subst this
    (replace h := alloc_some h; obtain ⟨rfl, rfl⟩ := h)
    intro Q E hQ
    refine call_set_0 fun led => hQ _ _ _ ⟨_, rfl⟩ (O.push rfl fun ρ' hE => ?_) (O.newRef _) Same.rfl
    refine ⟨_, _, #[], 0, .fresh 0 0 led, rfl, rfl, ⟨rfl, rfl, rfl⟩, rfl, ?_, ?_, by decide, ?_, Nat.le_refl _⟩
    · exact fun e he => by simp at he
    · intro k; simp
    · cases led <;> rfl
  | _ :: _ => intro h _; (first | exact nope h | refine rt_elim h ?_ | cases h)
end Mine
end

section
set_option genSizeOf false
set_option genInjectivity false
namespace Mine
theorem mapSeq_at {h : Heap} {a : Addr} {vs : Array Value} {n : Nat} (f : Array Value → Array Value) (e : h.get? a = some { cls := .type "list", data := .seq vs n }) : ∃ n', (h.update a (Obj.mapSeq f)).get? a = some { cls := .type "list", data := .seq (f vs) n' } := by
  have := Heap.get?_update_self (Obj.mapSeq f) e (by rfl)
  exact ⟨_, this⟩
theorem VRels.eraseIdx : ∀ {ρ : Rho} {xs : List CV} {vs : List Value} (i : Nat), VRels ρ xs vs → VRels ρ (xs.eraseIdx i) (vs.eraseIdx i)
  | _, [], [], _, _ => trivial
  | _, _ :: _, _ :: _, 0, ⟨_, r⟩ => r
  | _, _ :: _, _ :: _, i + 1, ⟨h, r⟩ => ⟨h, r.eraseIdx i⟩
  | _, [], _ :: _, _, h => h.elim
  | _, _ :: _, [], _, h => h.elim
theorem prim_pop : PrimOk .pop (.builtin "list.pop") := fun {W S ρ st st' s vs us v} O => by
  match vs with
  | [a] =>
    intro h hv
    refine look1 O h hv fun i co u e2 hu e h => ?_
    subst e
    (replace h := on_list h; obtain ⟨xs, rfl, h⟩ := h)
    dsimp only at h
    cases q0 : xs.getLast? with
    | none => rw [q0] at h; (first | exact nope h | refine rt_elim h ?_ | cases h)
    | some c =>
      rw [q0] at h
      dsimp only at h
      (first | (replace h := if_inv h; obtain ⟨q, h⟩ := h) | (replace h := if_inv2 h; obtain ⟨q, h⟩ := h) | (split at h; rotate_left; (focus cases h); rename_i q))
      · replace h := bnd_some h
        obtain ⟨y, st2, h2, h⟩ := h
        (first | exact nope h | refine rt_elim h ?_ | cases h)
        (replace h2 := put_some h2; obtain ⟨hlo, rfl⟩ := h2)
        obtain ⟨a, ws, n, rfl, g0, g1, g2⟩ := O.list e2 hu
        have len := g2.length
        have l := lenOk_le q
        simp only [Array.length_toList] at len
        rw [List.getLast?_eq_getElem?] at q0
        obtain ⟨w, f1, f2⟩ := some_of_get g2 q0
        rw [len] at f1
        intro Q E hQ
        refine call_meets PySem.F.slot_list_pop ⟨_, g1, rfl⟩ PySem.F.entry_list_pop (PySem.F.args_list_pop_1 _) (PySem.MeetsSeq.list_pop_last a ws n w f1 (by rw [sizeLine_is]; omega)) ⟨g1, ?_⟩
        obtain ⟨n', g⟩ := mapSeq_at (fun xs => xs.eraseIdxIfInBounds (ws.size - 1)) g1
        refine hQ _ ρ _ (Ext.refl _) (O.update g0 e2 hlo (same_kp (Heap.SameBut.update ..)) (os' := [_]) ⟨g, trivial⟩ ⟨a, _, _, rfl, rfl, ?_⟩) f2 Same.rfl
        rw [Array.toList_eraseIdxIfInBounds, len]
        exact g2.eraseIdx _
  | [] => intro h _; (first | exact nope h | refine rt_elim h ?_ | cases h)
  | _ :: _ :: _ => intro h _; (first | exact nope h | refine rt_elim h ?_ | cases h)
theorem prim_popAt : PrimOk .popAt (.builtin "list.pop") := fun {W S ρ st st' s vs us v} O => by
  match vs with
  | [a, .int j] =>
    intro h hv
    (replace hv := hv.two; obtain ⟨u, w, rfl, hu, t, rfl⟩ := hv)
    replace h := bnd_some (c := look a) h
    obtain ⟨⟨i, co⟩, st1, h1, h⟩ := h
    (replace h1 := look_some h1; obtain ⟨rfl, e2, rfl⟩ := h1)
    dsimp only at h e2
    (replace h := on_list h; obtain ⟨xs, rfl, h⟩ := h)
    try dsimp only at h
    cases q0 : (if (decide (0 ≤ j) && lenOk xs) = true then xs[j.toNat]? else none : Option CV) with
    | none => rw [q0] at h; (first | exact nope h | refine rt_elim h ?_ | cases h)
    | some c =>
      rw [q0] at h
      try dsimp only at h
      replace h := bnd_some h
      obtain ⟨y, st2, h2, h⟩ := h
      (first | exact nope h | refine rt_elim h ?_ | cases h)
      (replace h2 := put_some h2; obtain ⟨hlo, rfl⟩ := h2)
      obtain ⟨a, ws, n, rfl, g0, g1, g2⟩ := O.list e2 hu
      have len := g2.length
      simp only [Array.length_toList] at len
      (first | (replace q0 := if_inv q0; obtain ⟨q, q0⟩ := q0) | (replace q0 := if_inv2 q0; obtain ⟨q, q0⟩ := q0) | (split at q0; rotate_left; (focus cases q0); rename_i q))
      · rw [Bool.and_eq_true, decide_eq_true_eq] at q
        have l := lenOk_le q.2
        obtain ⟨w, f1, f2⟩ := some_of_get g2 q0
        have hj := (Array.getElem?_eq_some_iff.mp f1).1
        intro Q E hQ
        have hfit : Builtin.List.listFitsIndex j = true := by
          unfold Builtin.List.listFitsIndex
          simp only [Bool.and_eq_true, decide_eq_true_eq]
          omega
        have hsi : seqIndex? j ws.size = some j.toNat := by
          unfold seqIndex?
          have q1 : ¬ j < 0 := by omega
          have q2 : j < (ws.size : Int) := by omega
          simp [q1, q2, q.1]
        refine call_meets PySem.F.slot_list_pop ⟨_, g1, rfl⟩ PySem.F.entry_list_pop (PySem.F.args_list_pop_2 _ _) (PySem.MeetsSeq.list_pop_at a ws n j t j.toNat w hfit hsi f1 (by rw [sizeLine_is]; omega)) ⟨g1, ?_⟩
        obtain ⟨n', g⟩ := mapSeq_at (fun xs => xs.eraseIdxIfInBounds j.toNat) g1
        refine hQ _ ρ _ (Ext.refl _) (O.update g0 e2 hlo (same_kp (Heap.SameBut.update ..)) (os' := [_]) ⟨g, trivial⟩ ⟨a, _, _, rfl, rfl, ?_⟩) f2 Same.rfl
        rw [Array.toList_eraseIdxIfInBounds]
        exact g2.eraseIdx _
  | [] => intro h _; (first | exact nope h | refine rt_elim h ?_ | cases h)
  | [c] => intro h _; (first | exact nope h | (cases c <;> exact nope h))
  | [_, .none] => intro h _; (first | exact nope h | refine rt_elim h ?_ | cases h)
  | [_, .bool _] => intro h _; (first | exact nope h | refine rt_elim h ?_ | cases h)
  | [_, .str _] => intro h _; (first | exact nope h | refine rt_elim h ?_ | cases h)
  | [_, .ref _] => intro h _; (first | exact nope h | refine rt_elim h ?_ | cases h)
  | [_, .lit _] => intro h _; (first | exact nope h | refine rt_elim h ?_ | cases h)
  | _ :: c :: _ :: _ => intro h _; (first | exact nope h | (cases c <;> exact nope h))
theorem prim_clear : PrimOk .clear (.builtin "list.clear") := fun {W S ρ st st' s vs us v} O => by
  match vs with
  | [a] =>
    intro h hv
    refine look1 O h hv fun i co u e2 hu e h => ?_
    subst e
    (replace h := on_list h; obtain ⟨xs, rfl, h⟩ := h)
    dsimp only at h
    (first | (replace h := if_inv h; obtain ⟨q, h⟩ := h) | (replace h := if_inv2 h; obtain ⟨q, h⟩ := h) | (split at h; rotate_left; (focus cases h); rename_i q))
    · replace h := bnd_some h
      obtain ⟨y, st2, h2, h⟩ := h
      (first | exact nope h | refine rt_elim h ?_ | cases h)
      (replace h2 := put_some h2; obtain ⟨hlo, rfl⟩ := h2)
      obtain ⟨a, ws, n, rfl, g0, g1, g2⟩ := O.list e2 hu
      have len := g2.length
      have l := lenOk_le q
      simp only [Array.length_toList] at len
      intro Q E hQ
      refine call_meets PySem.F.slot_list_clear ⟨_, g1, rfl⟩ PySem.F.entry_list_clear (PySem.F.args_list_clear_1 _) (PySem.AutoSeq1.list_clear_list_0 a ws n (by rw [sizeLine_is]; omega)) ⟨g1, ?_⟩
      obtain ⟨n', g⟩ := mapSeq_at (fun _ => #[]) g1
      exact hQ _ ρ _ (Ext.refl _) (O.update g0 e2 hlo (same_kp (Heap.SameBut.update ..)) (os' := [_]) ⟨g, trivial⟩ ⟨a, _, _, rfl, rfl, trivial⟩) rfl Same.rfl
  | [] => intro h _; (first | exact nope h | refine rt_elim h ?_ | cases h)
  | _ :: _ :: _ => intro h _; (first | exact nope h | refine rt_elim h ?_ | cases h)

theorem OVRel.getD {ρ : Rho} {c : Option CV} {v : Option Value} {d : CV} {u : Value} (h : OVRel ρ c v) (hd : VRel ρ d u) : VRel ρ (c.getD d) (v.getD u) := by
  induction c with
  | none => have h : v = none := h; subst h; exact hd
  | some c => obtain ⟨w, rfl, hw⟩ := h; exact hw
theorem get_sound {W : Wd} {S : Sit} {ρ : Rho} {st st' : St} {s : Shared} {a b d v : CV} {u w x : Value} (O : Ok W S ρ st s.heap) (hu : VRel ρ a u) (hw : VRel ρ b w) (hx : VRel ρ d x)
    (h : bnd (look a) (fun o => match o.2, b with
      | .dictS es _, .str s => rt ((lkS es s).getD d)
      | .dictI es _, .int i => rt ((lkI es i).getD d)
      | _, _ => no) st = some (v, st')) {f : Sem Value}
    (go : ∀ {K : Type} [DecidableEq K] (knd : KeyKind W.prog W.w K) (k : K) (aa : Addr) (g : K → Option Value), knd.is k w = true → (aa == sysModules) = false → u = .ref aa → s.heap.MapOf knd aa g → ∀ (Q E : Value → Shared → Prop), Q ((g k).getD x) { s with toks := s.toks + 1 } → wpAny (model W.prog W.w) S.A f Q E s) :
    Does W S ρ s f st' (fun ρ' r => VRel ρ' v r) := by
  replace h := bnd_look h
  obtain ⟨i, co, rfl, e2, h⟩ := h
  dsimp only at h
  induction co with
  | dictS es ep =>
    induction b with
    | str y =>
      refine rt_elim h ?_
      obtain ⟨t, rfl⟩ := hw
      obtain ⟨a, kvs, rep, rfl, g0, g1, g2, g3, g4⟩ := O.dictS e2 hu
      refine Does.tok O fun Q E hQ => go (PySem.strKind W.prog W.w) y a _ (strKind_is _ _ y t) (sysM g3) rfl g1.dictOf.mapOf Q E (hQ _ _ ?_)
      rw [lkS_eq]
      exact (g2.lk y).getD hx
    | _ => exact nope h
  | dictI es ep =>
    induction b with
    | int y =>
      refine rt_elim h ?_
      obtain ⟨t, rfl⟩ := hw
      obtain ⟨a, kvs, rep, rfl, g0, g1, g2, g3, g4⟩ := O.dictI e2 hu
      refine Does.tok O fun Q E hQ => go (intKind W.prog W.w) y a _ (intKind_is _ _ y t) (sysM g3) rfl g1.dictOf.mapOf Q E (hQ _ _ ?_)
      rw [lkI_eq]
      exact (g2.lk y).getD hx
    | _ => exact nope h
  | _ => exact nope h
theorem prim_get : PrimOk .get (.builtin "dict.get") := fun {W S ρ st st' s vs us v} O => by
  match vs with
  | [a, b] =>
    intro h hv
    (replace hv := hv.two; obtain ⟨u, w, rfl, hu, hw⟩ := hv)
    refine get_sound (d := .none) (x := .none) (b := b) O hu hw rfl (by cases b <;> exact h) fun knd k aa g hk hs e hm Q E hQ => ?_
    subst e
    exact call_meetsIn PySem.F.slot_dict_get hm.typeIs PySem.F.entry_dict_get (PySem.F.args_dict_get_2 _ _) (meets_dict_get knd aa hk hs) ⟨g, hm, hQ⟩
  | [] => intro h _; (first | exact nope h | refine rt_elim h ?_ | cases h)
  | [c] => intro h _; (first | exact nope h | (cases c <;> exact nope h))
  | _ :: c :: _ :: _ => intro h _; (first | exact nope h | (cases c <;> exact nope h))
theorem prim_getD : PrimOk .getD (.builtin "dict.get") := fun {W S ρ st st' s vs us v} O => by
  match vs with
  | [a, b, c] =>
    intro h hv
    (replace hv := hv.three; obtain ⟨u, w, x, rfl, hu, hw, hx⟩ := hv)
    refine get_sound (d := c) (x := x) (b := b) O hu hw hx (by cases b <;> exact h) fun knd k aa g hk hs e hm Q E hQ => ?_
    subst e
    exact call_meetsIn PySem.F.slot_dict_get hm.typeIs PySem.F.entry_dict_get (PySem.F.args_dict_get_3 _ _ _) (meets_dict_get_default knd aa hk hs x) ⟨g, hm, hQ⟩
  | [] => intro h _; (first | exact nope h | refine rt_elim h ?_ | cases h)
  | [c] => intro h _; (first | exact nope h | (cases c <;> exact nope h))
  | [_, c] => intro h _; (first | exact nope h | (cases c <;> exact nope h))
  | _ :: c :: _ :: _ :: _ => intro h _; (first | exact nope h | (cases c <;> exact nope h))
end Mine
end

section
set_option genSizeOf false
set_option genInjectivity false
namespace Mine
theorem prim_join : PrimOk .join (.builtin "str.join") := fun {W S ρ st st' s vs us v} O => by
  match vs with
  | [.str x, a] =>
    intro h hv
    (replace hv := hv.two; obtain ⟨u, w, rfl, ⟨t, rfl⟩, hw⟩ := hv)
    replace h := bnd_some (c := look a) h
    obtain ⟨⟨i, co⟩, st1, h1, h⟩ := h
    (replace h1 := look_some h1; obtain ⟨rfl, e2, rfl⟩ := h1)
    dsimp only at h e2
    (replace h := on_list h; obtain ⟨xs, rfl, h⟩ := h)
    try dsimp only at h
    cases q0 : strsOf xs with
    | none => rw [q0] at h; (first | exact nope h | refine rt_elim h ?_ | cases h)
    | some ys =>
      rw [q0] at h
      try dsimp only at h
      (first | (replace h := if_inv h; obtain ⟨q, h⟩ := h) | (replace h := if_inv2 h; obtain ⟨q, h⟩ := h) | (split at h; rotate_left; (focus cases h); rename_i q))
      · simp only [Bool.and_eq_true, decide_eq_true_eq] at q
        (first | exact nope h | refine rt_elim h ?_ | cases h)
        obtain ⟨a, ws, n, rfl, g0, g1, g2⟩ := O.list e2 hw
        have hs : (ys.map (·.length)).sum = sumLen ys := rfl
        refine Does.tok O fun Q E hQ => join_listC ⟨_, g1, rfl, n, rfl⟩ (g2.strs q0) q.1.1 (by rw [hs]; omega) fun t' k => hQ _ _ ⟨_, rfl⟩
  | [] => intro h _; (first | exact nope h | refine rt_elim h ?_ | cases h)
  | [c] => intro h _; (first | exact nope h | (cases c <;> exact nope h))
  | [.none, _] => intro h _; (first | exact nope h | refine rt_elim h ?_ | cases h)
  | [.bool _, _] => intro h _; (first | exact nope h | refine rt_elim h ?_ | cases h)
  | [.int _, _] => intro h _; (first | exact nope h | refine rt_elim h ?_ | cases h)
  | [.ref _, _] => intro h _; (first | exact nope h | refine rt_elim h ?_ | cases h)
  | [.lit _, _] => intro h _; (first | exact nope h | refine rt_elim h ?_ | cases h)
  | c :: _ :: _ :: _ => intro h _; (first | exact nope h | (cases c <;> exact nope h))
theorem idxOf_get {x : Str} : ∀ {ys : List Str} {j : Nat}, idxOf ys x = some j → (∃ hj : j < ys.length, ys[j] = x) ∧ ∀ m (hm : m < ys.length), m < j → ys[m] ≠ x
  | [], _, h => by cases h
  | y :: r, j, h => by
    unfold idxOf at h
    split at h
    · rename_i q
      (first | exact nope h | refine rt_elim h ?_ | cases h)
      exact ⟨⟨by simp, q⟩, fun m hm hj => absurd hj (Nat.not_lt_zero _)⟩
    · rename_i q
      cases e : idxOf r x with
      | none => rw [e] at h; (first | exact nope h | refine rt_elim h ?_ | cases h)
      | some k =>
        rw [e] at h
        (first | exact nope h | refine rt_elim h ?_ | cases h)
        obtain ⟨⟨hk, e1⟩, e2⟩ := idxOf_get e
        refine ⟨⟨by simp; omega, by simpa using e1⟩, fun m hm hj => ?_⟩
        cases m with
        | zero => exact q
        | succ m => simpa using e2 m (by simp at hm; omega) (Nat.lt_of_succ_lt_succ hj)
theorem StrsAre.get {vs : List Value} {ys : List Str} (h : StrsAre vs ys) : vs.length = ys.length ∧ ∀ (i : Nat) (hi : i < vs.length) (hj : i < ys.length), ∃ t, vs[i] = .str ys[i] t := by
  induction h with
  | nil => exact ⟨rfl, fun i hi => absurd hi (Nat.not_lt_zero _)⟩
  | cons x t h ih =>
    refine ⟨by simp [ih.1], fun i hi hj => ?_⟩
    cases i with
    | zero => exact ⟨_, rfl⟩
    | succ i => exact ih.2 i (by simpa using hi) (by simpa using hj)
theorem prim_index : PrimOk .index (.builtin "list.index") := fun {W S ρ st st' s vs us v} O => by
  match vs with
  | [a, .str x] =>
    intro h hv
    (replace hv := hv.two; obtain ⟨u, w, rfl, hu, t, rfl⟩ := hv)
    replace h := bnd_some (c := look a) h
    obtain ⟨⟨i, co⟩, st1, h1, h⟩ := h
    (replace h1 := look_some h1; obtain ⟨rfl, e2, rfl⟩ := h1)
    dsimp only at h e2
    (replace h := on_list h; obtain ⟨xs, rfl, h⟩ := h)
    try dsimp only at h
    cases q0 : (if lenOk xs = true then idxS xs x else none : Option Nat) with
    | none => rw [q0] at h; (first | exact nope h | refine rt_elim h ?_ | cases h)
    | some j =>
      rw [q0] at h
      (first | exact nope h | refine rt_elim h ?_ | cases h)
      (first | (replace q0 := if_inv q0; obtain ⟨q, q0⟩ := q0) | (replace q0 := if_inv2 q0; obtain ⟨q, q0⟩ := q0) | (split at q0; rotate_left; (focus cases q0); rename_i q))
      · unfold idxS at q0
        cases q1 : strsOf xs with
        | none => rw [q1] at q0; (first | exact nope q0 | refine rt_elim q0 ?_ | cases q0)
        | some ys =>
          rw [q1] at q0
          simp only [Option.bind_some] at q0
          obtain ⟨⟨hj, e3⟩, e4⟩ := idxOf_get q0
          obtain ⟨a, ws, n, rfl, g0, g1, g2⟩ := O.list e2 hu
          have hl := lenOk_le q
          have hlen := g2.length
          have hS := g2.strs q1
          obtain ⟨hl2, hget⟩ := StrsAre.get hS
          simp only [Array.length_toList] at hlen hl2
          have hjw : j < ws.size := by omega
          obtain ⟨tj, ej⟩ := hget j (by simpa using hjw) hj
          refine Does.tok O fun Q E hQ => call_meets PySem.F.slot_list_index ⟨_, g1, rfl⟩ PySem.F.entry_list_index (PySem.F.args_list_index_2 _ _)
            (PySem.MeetsSeq.list_index a ws n (.str x t) (isStrOf x) (fun y hy => eq_isStrOf x t hS y (by simpa using hy)) j hjw (by omega) ?_ ?_) ⟨g1, hQ _ _ ⟨_, rfl⟩⟩
          · have : ws[j] = .str ys[j] tj := by simpa using ej
            rw [this, e3]; simp [isStrOf]
          · intro m hm hmj
            obtain ⟨tm, em⟩ := hget m (by simpa using hm) (by omega)
            have : ws[m] = .str ys[m] tm := by simpa using em
            rw [this]
            have := e4 m (by omega) hmj
            simp [isStrOf, this]
  | [] => intro h _; (first | exact nope h | refine rt_elim h ?_ | cases h)
  | [c] => intro h _; (first | exact nope h | (cases c <;> exact nope h))
  | [_, .none] => intro h _; (first | exact nope h | refine rt_elim h ?_ | cases h)
  | [_, .bool _] => intro h _; (first | exact nope h | refine rt_elim h ?_ | cases h)
  | [_, .int _] => intro h _; (first | exact nope h | refine rt_elim h ?_ | cases h)
  | [_, .ref _] => intro h _; (first | exact nope h | refine rt_elim h ?_ | cases h)
  | [_, .lit _] => intro h _; (first | exact nope h | refine rt_elim h ?_ | cases h)
  | _ :: c :: _ :: _ => intro h _; (first | exact nope h | (cases c <;> exact nope h))
end Mine
end

section
set_option genSizeOf false
set_option genInjectivity false
namespace Mine
noncomputable def allNews (h : Heap) (L : Addr) : List (Addr × Obj) := (List.range h.objs.size).filterMap fun a => if a = L then none else (h.get? a).map fun o => (a, o)
theorem mem_allNews {h : Heap} {L a : Addr} {o : Obj} : (a, o) ∈ allNews h L ↔ h.get? a = some o ∧ a ≠ L := by
  unfold allNews
  rw [List.mem_filterMap]
  constructor
  · rintro ⟨b, hb, e⟩
    split at e
    · (first | exact nope e | refine rt_elim e ?_ | cases e)
    · rename_i q
      cases q2 : h.get? b with
      | none => rw [q2] at e; (first | exact nope e | refine rt_elim e ?_ | cases e)
      | some o' => rw [q2] at e; (first | exact nope e | refine rt_elim e ?_ | cases e); exact ⟨q2, q⟩
  · rintro ⟨e, q⟩
    exact ⟨a, List.mem_range.mpr (Heap.lt_size e), by rw [if_neg q, e]; rfl⟩
noncomputable def noHeap : Heap := { objs := #[] }
theorem noHeap_get (a : Addr) : noHeap.get? a = none := get_big (Nat.zero_le _)
section
variable {W : Wd} {S : Sit} {ρ : Rho} {st : St} {h h' : Heap}
theorem Ok.news (_O : Ok W S ρ st h) : News noHeap S.env.locals h (allNews h S.env.locals) := fun p hp => ⟨(mem_allNews.mp (show (p.1, p.2) ∈ _ from hp)).1, (mem_allNews.mp (show (p.1, p.2) ∈ _ from hp)).2, noHeap_get _⟩
inductive Ok_frR  : Prop
  | intro m (f1 : Fr noHeap S.env.locals h m) (f2 : ∀ {h' : Heap}, h'.Ns S.env.locals m → News noHeap S.env.locals h' (allNews h S.env.locals) → Ok W S ρ st h')
theorem Ok.fr (O : Ok W S ρ st h) : Ok_frR (W := W) (S := S) (ρ := ρ) (st := st) (h := h) := by
  obtain ⟨m, n, r⟩ := O.rel.ns
  refine ⟨m, ⟨n, fun b o e => (by rw [noHeap_get] at e; cases e), Nat.zero_le _⟩, fun {h'} n' N => ?_⟩
  have kp : ∀ b o, b ≠ S.env.locals → h.get? b = some o → h'.get? b = some o := fun b o q e => (N _ (mem_allNews.mpr ⟨e, q⟩)).1
  have nd := O.rel.nd
  unfold own at nd
  rw [List.cons_append, List.nodup_cons] at nd
  have hne : ∀ a ∈ S.cs ++ (ρ.drop st.lo).flatten, a ≠ S.env.locals := fun a ha e => nd.1 (e ▸ ha)
  refine ⟨O.base, O.blt, O.env, O.top, O.ctx, O.lo, O.dep, ?_, fun p hp => (O.frs p hp).to (fun o e => kp _ o (fun q => (O.frs p hp).2.1 (by rw [q]; exact .head _)) e) (O.frs p hp).2.1, O.trk⟩
  refine ⟨fun b o e => kp b o (fun q => O.rel.off b (by rw [q]; exact .head _) o e) (O.rel.base b o e), O.rel.len, O.rel.lo, ?_, O.rel.nd, O.rel.off, ⟨m, n', r⟩, ?_, O.rel.fre, ?_, O.rel.glob, O.rel.big⟩
  · intro k co as e1 e2
    obtain ⟨os, a1, a2⟩ := O.rel.obj k co as e1 e2
    refine ⟨os, ?_, a2⟩
    split
    · rename_i q; rw [if_pos q] at a1; exact a1
    · rename_i q; rw [if_neg q] at a1
      exact a1.mono fun a ha o e => kp a o (hne a (List.mem_append.mpr (.inr (mem_own_obj e2 (Nat.le_of_not_lt q) ha)))) e
  · intro i x e
    obtain ⟨c, u, a1, a2, ⟨o, ho, hd⟩, a4⟩ := O.rel.cel i x e
    exact ⟨c, u, a1, a2, ⟨o, kp _ _ (hne c (List.mem_append.mpr (.inl a2))) ho, hd⟩, a4⟩
  · intro c hc
    obtain ⟨u, o, ho, hd⟩ := O.rel.cin c hc
    exact ⟨u, o, kp _ _ (hne c (List.mem_append.mpr (.inl hc))) ho, hd⟩
end
theorem prim_sum : PrimOk .sum (.builtin "sum") := fun {W S ρ st st' s vs us v} O => by
  match vs with
  | [a] =>
    intro h hv
    (replace h := guardD_some h; obtain ⟨hd, h⟩ := h)
    refine look1 O h hv fun i co u e2 hu e h => ?_
    subst e
    (replace h := on_list h; obtain ⟨xs, rfl, h⟩ := h)
    try dsimp only at h
    cases q0 : intsOf xs with
    | none => rw [q0] at h; (first | exact nope h | refine rt_elim h ?_ | cases h)
    | some ns =>
      rw [q0] at h
      try dsimp only at h
      (first | (replace h := if_inv h; obtain ⟨_, h⟩ := h) | (replace h := if_inv2 h; obtain ⟨_, h⟩ := h) | (split at h; rotate_left; (focus cases h)))
      · (first | exact nope h | refine rt_elim h ?_ | cases h)
        obtain ⟨a, ws, n, rfl, g0, g1, g2⟩ := O.list e2 hu
        obtain ⟨m, F, back⟩ := O.fr
        intro Q E hQ
        exact sumK (vs := ws.toList) (O.ctx.handled (by rw [← O.dep]; exact hd)) F O.news ⟨_, g1, rfl, n, by simp⟩ (g2.ints q0) fun h' tk t' F' N' => hQ _ ρ { s with heap := h', toks := tk } (Ext.refl _) (back F'.ns N') ⟨_, rfl⟩ Same.rfl
  | [] => intro h _; (first | exact nope h | refine rt_elim h ?_ | cases h)
  | _ :: _ :: _ => intro h _; (first | exact nope h | refine rt_elim h ?_ | cases h)
end Mine
end

section
set_option genSizeOf false
set_option genInjectivity false
namespace Mine
theorem Ok.newList {W : Wd} {S : Sit} {ρ : Rho} {st : St} {h h' : Heap} {D : Addr} {ws : Array Value} {n : Nat} {xs : List CV} (O : Ok W S ρ st h) (O' : Ok W S ρ st h') (hD : h'.get? D = some { cls := .type "list", data := .seq ws n }) (hne : D ≠ S.env.locals) (hlt : ∀ q ∈ allNews h S.env.locals, q.1 < D)
    (hv : VRels ρ xs ws.toList) : Ok W S (ρ ++ [[D]]) { st with heap := st.heap ++ [.list xs] } h' ∧ VRel (ρ ++ [[D]]) (.ref st.heap.length) (.ref D) := by
  have notin : ∀ o, h.get? D ≠ some o := fun o e => absurd (hlt (D, o) (mem_allNews.mpr ⟨e, hne⟩)) (Nat.lt_irrefl _)
  refine ⟨⟨O'.base, O'.blt, O'.env, fun i b e => Ext.get ⟨_, rfl⟩ (O'.top i b e), O'.ctx, O'.lo, O'.dep, O'.rel.adopt (os := [{ cls := .type "list", data := .seq ws n }]) (fun a ha => ?_) (by simp) ⟨hD, trivial⟩ ⟨_, ws, n, rfl, rfl, hv.mono ⟨_, rfl⟩⟩, fun p hp => (O'.frs p hp).to (fun o e => e) fun q => (by
    have q : p.1 ∈ own S.env S.cs (ρ ++ [[D]]) st.lo := q
    rw [own_more (by rw [O.rel.len]; exact O.rel.lo)] at q
    rcases List.mem_append.mp q with q | q
    · exact (O'.frs p hp).2.1 q
    · obtain ⟨⟨o, e, _⟩, _⟩ := O.frs p hp
      exact notin o (List.mem_singleton.mp q ▸ e)), O'.trk⟩, O.newRef D⟩
  rw [List.mem_singleton.mp ha]
  refine ⟨fun q => ?_, fun o e => notin o (O.rel.base _ _ e), ?_⟩
  · rcases List.mem_append.mp q with q | q
    · rcases List.mem_cons.mp q with q | q
      · exact hne q
      · obtain ⟨u, o, ho, _⟩ := O.rel.cin _ q; exact notin o ho
    · obtain ⟨as, has, ha⟩ := List.mem_flatten.mp q
      obtain ⟨i, hi⟩ := List.mem_iff_getElem?.mp has
      rw [List.getElem?_drop] at hi
      have hk : st.lo + i < st.heap.length := by rw [← O.rel.len]; exact (List.getElem?_eq_some_iff.mp hi).1
      obtain ⟨as', os', g1, g2, g3⟩ := O.rel.at (List.getElem?_eq_getElem hk)
      rw [hi] at g1; cases g1
      obtain ⟨o, ho⟩ := g2.mem _ ha
      exact notin o ho
  · obtain ⟨o, e⟩ := O.rel.glob
    exact hlt (3, o) (mem_allNews.mpr ⟨O.rel.base _ _ e, fun q => O.rel.off S.env.locals (.head _) o (by rw [← q]; exact e)⟩)
theorem VRels.ofStrs {ρ : Rho} : ∀ l : List (Str × Tok), VRels ρ ((l.map (·.1)).map .str) (strValues l)
  | [] => trivial
  | p :: r => ⟨⟨p.2, rfl⟩, VRels.ofStrs r⟩
theorem VRels.ofInts {ρ : Rho} {vs : List Value} {ns : List Int} (h : IntsAre vs ns) : VRels ρ (ns.map .int) vs := by
  induction h with
  | nil => trivial
  | cons x t h ih => exact ⟨⟨t, rfl⟩, ih⟩
theorem prim_split : PrimOk .split (.builtin "str.split") := fun {W S ρ st st' s vs us v} O => by
  match vs with
  | [.str x, .str y] =>
    intro h hv
    (replace hv := hv.two; obtain ⟨u, w, rfl, ⟨t, rfl⟩, ⟨t', rfl⟩⟩ := hv)
    have h : (if (decide (x.length ≤ 10000) && decide (0 < y.length)) = true then alloc (.list ((Txt.split x y).map .str)) else no) st = some (v, st') := h
    (first | (replace h := if_inv h; obtain ⟨q, h⟩ := h) | (replace h := if_inv2 h; obtain ⟨q, h⟩ := h) | (split at h; rotate_left; (focus cases h); rename_i q))
    · simp only [Bool.and_eq_true, decide_eq_true_eq] at q
      (replace h := alloc_some h; obtain ⟨rfl, rfl⟩ := h)
      obtain ⟨m, F, back⟩ := O.fr
      intro Q E hQ
      refine KSpl.split1 F O.news (beq_eq_false_iff_ne.mpr (by omega)) (fun D l h' k e _ F' N' hlt => ?_) (by rw [sizeLine_is]; omega)
      have O' := back F'.ns fun p hp => N' p (.tail _ hp)
      obtain ⟨O2, hv2⟩ := O.newList O' (N' _ (.head _)).1 (N' _ (.head _)).2.1 hlt (xs := (Txt.split x y).map .str) (by rw [← e]; exact VRels.ofStrs l)
      exact hQ _ _ { s with heap := h', toks := k } ⟨_, rfl⟩ O2 hv2 Same.rfl
  | [] => intro h _; (first | exact nope h | cases h)
  | [c] => intro h _; (first | exact nope h | (cases c <;> exact nope h))
  | c :: d :: _ :: _ => intro h _; (first | exact nope h | (cases c <;> exact nope h) | (cases c <;> first | exact nope h | (cases d <;> exact nope h)))
  | [.none, d] => intro h _; (first | exact nope h | (cases d <;> exact nope h))
  | [.bool _, d] => intro h _; (first | exact nope h | (cases d <;> exact nope h))
  | [.int _, d] => intro h _; (first | exact nope h | (cases d <;> exact nope h))
  | [.ref _, d] => intro h _; (first | exact nope h | (cases d <;> exact nope h))
  | [.lit _, d] => intro h _; (first | exact nope h | (cases d <;> exact nope h))
  | [.str _, .none] => intro h _; (first | exact nope h | cases h)
  | [.str _, .bool _] => intro h _; (first | exact nope h | cases h)
  | [.str _, .int _] => intro h _; (first | exact nope h | cases h)
  | [.str _, .ref _] => intro h _; (first | exact nope h | cases h)
  | [.str _, .lit _] => intro h _; (first | exact nope h | cases h)
end Mine
end

section
set_option genSizeOf false
set_option genInjectivity false
namespace Mine
end Mine
end

section
set_option genSizeOf false
set_option genInjectivity false
namespace Mine
theorem prim_hex : PrimOk .hex (.builtin "hex") := fun {W S ρ st st' s vs us v} O => by
  match vs with
  | [.int i] =>
    intro h hv
    have h : (if decide ((PySem.baseText "0x" 16 i).length ≤ 1000) = true then rt (.str (PySem.baseText "0x" 16 i)) else no) st = some (v, st') := h
    (replace hv := hv.one; obtain ⟨u, rfl, t, rfl⟩ := hv)
    (first | (replace h := if_inv h; obtain ⟨q, h⟩ := h) | (replace h := if_inv2 h; obtain ⟨q, h⟩ := h) | (split at h; rotate_left; (focus cases h); rename_i q))
    · rw [decide_eq_true_eq] at q
      (first | exact nope h | refine rt_elim h ?_ | cases h)
      exact Does.tok O fun Q E hQ => PySem.P.hex_of_int (hQ _ _ ⟨_, rfl⟩) (by rw [sizeLine_is]; omega)
  | [] => intro h _; (first | exact nope h | refine rt_elim h ?_ | cases h)
  | c :: _ :: _ => intro h _; (first | exact nope h | (cases c <;> exact nope h))
  | [.none] => intro h _; (first | exact nope h | refine rt_elim h ?_ | cases h)
  | [.bool _] => intro h _; (first | exact nope h | refine rt_elim h ?_ | cases h)
  | [.str _] => intro h _; (first | exact nope h | refine rt_elim h ?_ | cases h)
  | [.ref _] => intro h _; (first | exact nope h | refine rt_elim h ?_ | cases h)
  | [.lit _] => intro h _; (first | exact nope h | refine rt_elim h ?_ | cases h)
theorem prim_sadd : PrimOk .sadd (.builtin "set.add") := fun {W S ρ st st' s vs us v} O => by
  match vs with
  | [a, .str x] =>
    intro h hv
    (replace hv := hv.two; obtain ⟨u, w, rfl, hu, t, rfl⟩ := hv)
    replace h := bnd_some (c := look a) h
    obtain ⟨⟨i, co⟩, st1, h1, h⟩ := h
    (replace h1 := look_some h1; obtain ⟨rfl, e2, rfl⟩ := h1)
    dsimp only at h e2
    (replace h := on_set h; obtain ⟨xs, rfl, h⟩ := h)
    try dsimp only at h
    (first | (replace h := if_inv h; obtain ⟨q, h⟩ := h) | (replace h := if_inv2 h; obtain ⟨q, h⟩ := h) | (split at h; rotate_left; (focus cases h); rename_i q))
    · rw [decide_eq_true_eq] at q
      replace h := bnd_some h
      obtain ⟨y, st2, h2, h⟩ := h
      (first | exact nope h | refine rt_elim h ?_ | cases h)
      (replace h2 := put_some h2; obtain ⟨hlo, rfl⟩ := h2)
      obtain ⟨a, n, rfl, g0, g1, g2⟩ := O.set e2 hu
      intro Q E hQ
      refine call_set_add (knd := PySem.strKind W.prog W.w) (strKind_is _ _ x t) rfl g1 (by unfold scanBound; omega) fun h' hS hD => hQ _ ρ _ (Ext.refl _) ?_ rfl Same.rfl
      obtain ⟨o, es, ep, tb, d1, d2, d3, d4, d5, d6, d7, d8⟩ := hD
      refine O.update g0 e2 hlo (same_kp hS) (os' := [o]) ⟨d1, trivial⟩ ⟨a, o, es, ep, tb, rfl, rfl, d2, d3, d4, fun k => ?_, d6, d7, ?_⟩
      · rw [← d5 k]
        split
        · rename_i q
          by_cases hk : k = x
          · subst hk; simp [q]
          · simp [hk]
        · simp
      · rw [d8]
        split
        · rename_i q; rw [if_pos (by simpa using q)]; exact g2
        · rename_i q
          rw [if_neg (by simpa using q)]
          simp; exact g2
  | [] => intro h _; (first | exact nope h | refine rt_elim h ?_ | cases h)
  | [c] => intro h _; (first | exact nope h | (cases c <;> exact nope h))
  | [_, .none] => intro h _; (first | exact nope h | refine rt_elim h ?_ | cases h)
  | [_, .bool _] => intro h _; (first | exact nope h | refine rt_elim h ?_ | cases h)
  | [_, .int _] => intro h _; (first | exact nope h | refine rt_elim h ?_ | cases h)
  | [_, .ref _] => intro h _; (first | exact nope h | refine rt_elim h ?_ | cases h)
  | [_, .lit _] => intro h _; (first | exact nope h | refine rt_elim h ?_ | cases h)
  | _ :: c :: _ :: _ => intro h _; (first | exact nope h | (cases c <;> exact nope h))
end Mine
end

section
set_option genSizeOf false
set_option genInjectivity false
namespace Mine
noncomputable def mkT : MK → String
  | .list => "list"
  | .dict => "dict"
  | .set => "set"
  | .str => "str"
  | .none => "?"
structure MethOk (p : Prim) (name : Str) (id : String) : Prop where
  pa : PlainAttrs (mkT (mkOf p))
  slot : Slot (mkT (mkOf p)) name id
  ty : typeOf (.builtin id) = pure (.type "method_descriptor")
  ok : PrimOk p (.builtin id)
section
variable {W : Wd} {S : Sit} {ρ : Rho} {st st' : St} {s : Shared}
theorem okIf_some {b : Bool} {y : Unit} (h : okIf b st = some (y, st')) : b = true ∧ st' = st := by
  unfold okIf at h
  (first | (replace h := if_inv h; obtain ⟨q, h⟩ := h) | (replace h := if_inv2 h; obtain ⟨q, h⟩ := h) | (split at h; rotate_left; (focus cases h); rename_i q))
  · (first | exact nope h | refine rt_elim h ?_ | cases h); exact ⟨q, rfl⟩
inductive kind_soundR (p : Prim) (u : Value) : Prop
  | intro (f1 : st' = st) (f2 : s.TypeIs u (mkT (mkOf p))) (f3 : ∀ a, u = .ref a → ∃ ob, s.heap.get? a = some ob ∧ ob.dict = none)
theorem kind_sound {p : Prim} {v : CV} {u : Value} {y : Unit} (O : Ok W S ρ st s.heap) (h : kindOk p v st = some (y, st')) (hv : VRel ρ v u) :
kind_soundR (st := st) (st' := st') (s := s) p u := by
  unfold kindOk at h
  induction v with
  | str x =>
    (replace h := okIf_some h; obtain ⟨q, e⟩ := h)
    have q : mkOf p = .str := by simpa using q
    obtain ⟨t, rfl⟩ := hv
    exact ⟨e, by rw [q]; rfl, fun a e => by cases e⟩
  | ref k =>
    replace h := bnd_some h
    obtain ⟨⟨i, co⟩, st1, h1, h⟩ := h
    (replace h1 := look_some h1; obtain ⟨e0, e2, rfl⟩ := h1)
    cases e0
    dsimp only at h e2
    induction co with
    | list xs =>
      (replace h := okIf_some h; obtain ⟨q, e⟩ := h)
      have q : mkOf p = .list := by simpa using q
      obtain ⟨a, vs, n, rfl, g0, g1, g2⟩ := O.list e2 hv
      exact ⟨e, by rw [q]; exact ⟨_, g1, rfl⟩, fun a e => by cases e; exact ⟨_, g1, rfl⟩⟩
    | dictS es ep =>
      (replace h := okIf_some h; obtain ⟨q, e⟩ := h)
      have q : mkOf p = .dict := by simpa using q
      obtain ⟨a, kvs, rep, rfl, g0, ⟨o, es, g1, g2, _⟩, _⟩ := O.dictS e2 hv
      exact ⟨e, by rw [q]; exact ⟨_, g1, g2.1⟩, fun a e => by cases e; exact ⟨_, g1, g2.2.1⟩⟩
    | dictI es ep =>
      (replace h := okIf_some h; obtain ⟨q, e⟩ := h)
      have q : mkOf p = .dict := by simpa using q
      obtain ⟨a, kvs, rep, rfl, g0, ⟨o, es, g1, g2, _⟩, _⟩ := O.dictI e2 hv
      exact ⟨e, by rw [q]; exact ⟨_, g1, g2.1⟩, fun a e => by cases e; exact ⟨_, g1, g2.2.1⟩⟩
    | set xs =>
      (replace h := okIf_some h; obtain ⟨q, e⟩ := h)
      have q : mkOf p = .set := by simpa using q
      obtain ⟨a, n, rfl, g0, ⟨o, es, ep, t, g1, g2, _⟩, _⟩ := O.set e2 hv
      exact ⟨e, by rw [q]; exact ⟨_, g1, g2.1⟩, fun a e => by cases e; exact ⟨_, g1, g2.2.1⟩⟩
    | _ => (first | exact nope h | refine rt_elim h ?_ | cases h)
  | _ => (first | exact nope h | refine rt_elim h ?_ | cases h)
end
section
variable {T : Tx}
theorem all_plain {cs : List CE} {es : List Expr} (ha : SEs T cs es) (env : Env) (pos : Pos) : (backTo pos (starEach es env)).all (fun x => !x.1) = true := by
  have := ha.plain env pos
  rw [List.any_eq_false] at this
  rw [List.all_eq_true]
  intro x hx
  have := this x hx
  simpa using this
theorem SE.meth {p : Prim} {o : CE} {e : Expr} {name : Str} {id : String} {cs : List CE} {es : List Expr} {apos pos : Pos} (hp : MethOk p name id) (ho : SE T o e) (ha : SEs T cs es)
    (hbase : ∀ env whole, attributeBase e name env whole = whole := by intro _ _; rfl) (hline : (apos.endLine == pos.line) = true := by rfl) (hlen : decide (es.length < 30) = true := by rfl) : SE T (.meth p o cs) (.Call (.Attribute e name apos) es [] pos) := fun n C S ρ st st' s v I O h => by
  replace h := run_e h
  obtain ⟨m, rfl, h⟩ := h
  unfold stepE at h
  replace h := bnd_some h
  obtain ⟨x, st1, h1, h⟩ := h
  replace h := bnd_some h
  obtain ⟨y, st2, h2, h⟩ := h
  replace h := bnd_some h
  obtain ⟨vs, st3, h3, h⟩ := h
  intro Q E hQ
  refine wpAny_Call_method_late (hbase _ _) ?_ hline rfl (ho m C.down I O h1 _ _ fun u ρ1 s1 e1 O1 p1 m1 => ?_)
  · rw [all_plain ha]; exact hlen
  · obtain ⟨rfl, k2, k3⟩ := kind_sound O1 h2 p1
    refine ⟨_, id, hp.pa, hp.slot, hp.ty, k2, k3, ?_⟩
    refine callW Kp.builtin ha C.down I O1 h3 fun us ρ2 s2 e2 O2 p2 m2 => ?_
    exact hp.ok O2 h (us := u :: us) ⟨p1.mono e2, p2⟩ _ _ fun u2 ρ3 s3 e3 O3 p3 m3 => hQ _ _ _ ((e1.trans e2).trans e3) O3 p3 ((m1.trans m2).trans m3)
end
theorem meth_append : MethOk .append "append" "list.append" := ⟨PySem.F.plainAttrs_list, PySem.F.slot_list_append, PySem.F.type_list_append, prim_append⟩
theorem meth_pop : MethOk .pop "pop" "list.pop" := ⟨PySem.F.plainAttrs_list, PySem.F.slot_list_pop, PySem.F.type_list_pop, prim_pop⟩
theorem meth_popAt : MethOk .popAt "pop" "list.pop" := ⟨PySem.F.plainAttrs_list, PySem.F.slot_list_pop, PySem.F.type_list_pop, prim_popAt⟩
theorem meth_clear : MethOk .clear "clear" "list.clear" := ⟨PySem.F.plainAttrs_list, PySem.F.slot_list_clear, PySem.F.type_list_clear, prim_clear⟩
theorem meth_index : MethOk .index "index" "list.index" := ⟨PySem.F.plainAttrs_list, PySem.F.slot_list_index, PySem.F.type_list_index, prim_index⟩
theorem meth_get : MethOk .get "get" "dict.get" := ⟨PySem.F.plainAttrs_dict, PySem.F.slot_dict_get, PySem.F.type_dict_get, prim_get⟩
theorem meth_getD : MethOk .getD "get" "dict.get" := ⟨PySem.F.plainAttrs_dict, PySem.F.slot_dict_get, PySem.F.type_dict_get, prim_getD⟩
theorem meth_sadd : MethOk .sadd "add" "set.add" := ⟨PySem.F.plainAttrs_set, PySem.F.slot_set_add, PySem.F.type_set_add, prim_sadd⟩
theorem meth_join : MethOk .join "join" "str.join" := ⟨PySem.F.plainAttrs_str, PySem.F.slot_str_join, PySem.F.type_str_join, prim_join⟩
theorem meth_split : MethOk .split "split" "str.split" := ⟨PySem.F.plainAttrs_str, PySem.F.slot_str_split, PySem.F.type_str_split, prim_split⟩
end Mine
end

section
set_option genSizeOf false
set_option genInjectivity false
namespace Mine
section
variable {T : Tx}
theorem SE.dict0 {b : Bool} {pos : Pos} : SE T (.dict0 b) (.Dict [] [] pos) := fun n C S ρ st st' s v I O h => by
  replace h := run_e h
  obtain ⟨m, rfl, h⟩ := h
  induction b with
  | true =>
    change alloc (.dictS [] 0) st = _ at h
    (replace h := alloc_some h; obtain ⟨rfl, rfl⟩ := h)
    intro Q E hQ
    exact wpAny_Dict_empty (hQ _ _ { s with heap := s.heap.push { cls := .type "dict", data := .dict #[] } } ⟨_, rfl⟩ (O.push rfl fun ρ' hE => ⟨_, _, #[], [], 0, fun _ => rfl, rfl, rfl, ⟨rfl, rfl, rfl⟩, rfl, fun e he => by simp at he, .nil, .nil, trivial⟩) (O.newRef _) Same.rfl)
  | false =>
    change alloc (.dictI [] 0) st = _ at h
    (replace h := alloc_some h; obtain ⟨rfl, rfl⟩ := h)
    intro Q E hQ
    exact wpAny_Dict_empty (hQ _ _ { s with heap := s.heap.push { cls := .type "dict", data := .dict #[] } } ⟨_, rfl⟩ (O.push rfl fun ρ' hE => ⟨_, _, #[], [], 0, fun _ => rfl, rfl, rfl, ⟨rfl, rfl, rfl⟩, rfl, fun e he => by simp at he, .nil, .nil, trivial⟩) (O.newRef _) Same.rfl)

noncomputable def SP (T : Tx) : Option CE → Option Expr → Prop
  | none, none => True
  | some c, some e => SE T c e
  | _, _ => False
theorem part_sound {c : Option CE} {e : Option Expr} (hp : SP T c e) {n : Nat} (C : Calls T.P T.W n) {S : Sit} {ρ : Rho} {st st' : St} {s : Shared} {v : CV} (I : T.In S) (O : Ok T.W S ρ st s.heap) (h : evO (run T.P n) c st = some (v, st')) :
    Does T.W S ρ s (evalPart e S.env) st' (fun ρ' r => VRel ρ' v r) := by
  match c, e, hp with
  | none, none, _ => (first | exact nope h | refine rt_elim h ?_ | cases h); exact fun Q E hQ => wpAny_pure (hQ _ _ _ (Ext.refl _) O rfl Same.refl)
  | some c, some e, hp => exact hp n C I O h
theorem isPart_of {ρ : Rho} {v : CV} {u : Value} {p : Option Int} (h : partI v = some p) (hv : VRel ρ v u) : IsPart u p := by
  induction v with
  | none => (first | exact nope h | refine rt_elim h ?_ | cases h); cases hv; exact .none
  | int i =>
    obtain ⟨t, rfl⟩ := hv
    change (if small i = true then some (some i) else none) = some p at h
    by_cases q : small i = true
    · rw [if_pos q] at h; (first | exact nope h | refine rt_elim h ?_ | cases h); exact .int _ _
    · rw [if_neg q] at h; (first | exact nope h | refine rt_elim h ?_ | cases h)
  | _ => (first | exact nope h | refine rt_elim h ?_ | cases h)
theorem VRels.filterMap {ρ : Rho} {xs : List CV} {vs : Array Value} (h : VRels ρ xs vs.toList) : ∀ (is : List Nat), VRels ρ (is.filterMap (xs[·]?)) (is.filterMap (vs[·]?))
  | [] => trivial
  | i :: is => by
    have r := VRels.filterMap h is
    rw [List.filterMap_cons, List.filterMap_cons]
    cases q : xs[i]? with
    | none =>
      have : vs[i]? = none := by
        rw [List.getElem?_eq_none_iff] at q
        have l := h.length
        simp only [Array.length_toList] at l
        exact Array.getElem?_eq_none (by omega)
      rw [this]; exact r
    | some c =>
      obtain ⟨w, f1, f2⟩ := some_of_get h q
      have f1 : vs[i]? = some w := by simpa using f1
      rw [f1]; exact ⟨f2, r⟩
theorem SE.slice {a : CE} {lo hi sp : Option CE} {x : Expr} {l u t : Option Expr} {p pos : Pos} (ha : SE T a x) (hl : SP T lo l) (hu : SP T hi u) (ht : SP T sp t) : SE T (.slice a lo hi sp) (.Subscript x (.Slice l u t p) pos) := fun n C S ρ st st' s v I O h => by
  replace h := run_e h
  obtain ⟨m, rfl, h⟩ := h
  unfold stepE at h
  replace h := bnd_some h
  obtain ⟨y, st1, h1, h⟩ := h
  replace h := bnd_some h
  obtain ⟨cl, st2, h2, h⟩ := h
  replace h := bnd_some h
  obtain ⟨cu, st3, h3, h⟩ := h
  replace h := bnd_some h
  obtain ⟨ct, st4, h4, h⟩ := h
  replace h := bnd_some h
  obtain ⟨⟨k, co⟩, st5, h5, h⟩ := h
  (replace h5 := look_some h5; obtain ⟨rfl, e5, rfl⟩ := h5)
  dsimp only at h e5
  (replace h := on_list h; obtain ⟨xs, rfl, h⟩ := h)
  try dsimp only at h
  obtain ⟨pl, q1⟩ : ∃ p, partI cl = some p := by
    cases q : partI cl with
    | none => rw [q] at h; (first | exact nope h | refine rt_elim h ?_ | cases h)
    | some p => exact ⟨p, rfl⟩
  obtain ⟨pu, q2⟩ : ∃ p, partI cu = some p := by
    cases q : partI cu with
    | none => rw [q1, q] at h; (first | exact nope h | refine rt_elim h ?_ | cases h)
    | some p => exact ⟨p, rfl⟩
  obtain ⟨pt, q3⟩ : ∃ p, partI ct = some p := by
    cases q : partI ct with
    | none => rw [q1, q2, q] at h; (first | exact nope h | refine rt_elim h ?_ | cases h)
    | some p => exact ⟨p, rfl⟩
  rw [q1, q2, q3] at h
  try dsimp only at h
  (first | (replace h := if_inv h; obtain ⟨q, h⟩ := h) | (replace h := if_inv2 h; obtain ⟨q, h⟩ := h) | (split at h; rotate_left; (focus cases h); rename_i q))
  · rw [Bool.and_eq_true, decide_eq_true_eq] at q
    (replace h := alloc_some h; obtain ⟨rfl, rfl⟩ := h)
    intro Q E hQ
    refine Subscript_ (ha m C.down I O h1 _ _ fun u1 ρ1 s1 e1 O1 p1 m1 => wpAny_Slice (part_sound hl C.down I O1 h2 _ _ fun u2 ρ2 s2 e2 O2 p2 m2 => part_sound hu C.down I O2 h3 _ _ fun u3 ρ3 s3 e3 O3 p3 m3 => part_sound ht C.down I O3 h4 _ _ fun u4 ρ4 s4 e4 O4 p4 m4 => ?_))
    obtain ⟨b, ws, k', rfl, g0, g1, g2⟩ := O4.list e5 (p1.mono ((e2.trans e3).trans e4))
    have len := g2.length
    have ll := lenOk_le q.2
    simp only [Array.length_toList] at len
    have O5 : Ok T.W S ρ4 _ (s4.heap.push { cls := .type "slice", data := .fields #[u2, u3, u4] }) := O4.keeps fun _ _ e => Heap.get?_push_of_some _ e
    have g1' := Heap.get?_push_of_some { cls := .type "slice", data := .fields #[u2, u3, u4] } g1
    refine tail_any (T := "list") (s := { s4 with heap := s4.heap.push { cls := .type "slice", data := .fields #[u2, u3, u4] } }) ⟨_, g1', rfl⟩ list_getitem_lookup ?_ (sub_ops _ _ _).choose_spec
    refine wpAny_getItem_list_slice (s := { s4 with heap := s4.heap.push { cls := .type "slice", data := .fields #[u2, u3, u4] } }) ⟨_, g1', rfl, k', rfl⟩ (Heap.IsSliceOf.new ..) (isPart_of q1 (p2.mono (e3.trans e4))) (isPart_of q2 (p3.mono e4)) (isPart_of q3 p4) q.1 ?_ (by rw [sizeLine_is]; omega)
    refine hQ _ _ _ ((((e1.trans e2).trans e3).trans e4).trans ⟨_, rfl⟩) (O5.push rfl fun ρ' hE => ⟨_, _, 0, rfl, rfl, ?_⟩) (O5.newRef _) ((((m1.trans m2).trans m3).trans m4).trans Same.rfl)
    unfold slicePick pick
    rw [len]
    exact VRels.filterMap (g2.mono hE) _

theorem SI.values {a : CE} {e : Expr} {apos pos : Pos} (ha : SE T a e) (hbase : ∀ env whole, attributeBase e "values" env whole = whole := by intro _ _; rfl) (hline : (apos.endLine == pos.line) = true := by rfl) :
    SI T (.values a) (.Call (.Attribute e "values" apos) [] [] pos) := fun n C S ρ st st' s it I O h Q E hQ => by
  unfold evI at h
  replace h := bnd_some h
  obtain ⟨v, st1, h1, h⟩ := h
  replace h := bnd_some h
  obtain ⟨⟨k, co⟩, st2, h2, h⟩ := h
  (replace h2 := look_some h2; obtain ⟨rfl, e2, rfl⟩ := h2)
  dsimp only at h e2
  refine wpAny_Call_method0_late (hbase _ _) hline (ha n C I O h1 _ _ fun u1 ρ1 s1 e1 O1 p1 m1 => ?_)
  (replace h := on_dictS h; obtain ⟨es, ep, rfl, h⟩ := h)
  try dsimp only at h
  split at h
  · (first | exact nope h | refine rt_elim h ?_ | cases h)
  · rename_i q
    (first | exact nope h | cases h)
    obtain ⟨a, kvs, rep, rfl, g0, g1, g2, g3, g4⟩ := O1.dictS e2 p1
    obtain ⟨o, res, d1, d2, d3⟩ := id g1
    have hT : s1.TypeIs (.ref a) "dict" := ⟨_, d1, d2.1⟩
    refine ⟨_, _, PySem.F.plainAttrs_dict, PySem.F.slot_dict_values, PySem.F.type_dict_values, hT, fun b e => by cases e; exact ⟨_, d1, d2.2.1⟩, ?_⟩
    refine callW (T := T) (first := [.ref a]) (cs := []) (es := []) Kp.builtin SEs.nil C I O1 (vs := []) rfl fun us ρ2 s2 e3 O2 p2 m2 => ?_
    obtain rfl := p2.zero
    obtain ⟨a', kvs, rep, ra, g0, g1, g2, g3, g4⟩ := O2.dictS e2 (p1.mono e3)
    cases ra
    have := g4 q
    subst this
    obtain ⟨o, res, d1, d2, d3⟩ := id g1
    refine call_meetsIn (rest := []) PySem.F.slot_dict_values ⟨_, d1, d2.1⟩ PySem.F.entry_dict_values (PySem.F.args_dict_values_1 _) (meets_dict_values (strKind T.W.prog T.W.w) a (sysM g3)) ⟨⟨kvs, g1.dictOf⟩, ?_⟩
    have O3 : Ok T.W S ρ2 _ (s2.heap.push { cls := .type "dict_values", data := .fields #[.ref a] }) := O2.keeps fun _ _ e => Heap.get?_push_of_some _ e
    have g1' : (s2.heap.push { cls := .type "dict_values", data := .fields #[.ref a] }).DictAt (strKind T.W.prog T.W.w) a kvs rep := ⟨o, res, Heap.get?_push_of_some _ d1, d2, d3⟩
    refine wpAny_pyIter_values (s := { s2 with heap := s2.heap.push { cls := .type "dict_values", data := .fields #[.ref a] } }) (v := s2.heap.objs.size) ⟨_, Heap.get?_push_size _ rfl, rfl, rfl⟩ g1' ?_
    refine hQ _ ρ2 _ [(_, { cls := .type "dict_valueiterator", data := .fields #[.ref a, .int 0 0, .int kvs.length 0, .int rep 0] })] (e1.trans e3) (O3.hide (fun _ _ e => Heap.get?_push_of_some _ e) fun p hp => ?_) ⟨_, _, a, rfl, rfl, g0, rfl, by rw [g2.length]; rfl⟩ ((m1.trans m2).trans Same.rfl)
    rw [List.mem_singleton.mp hp]; exact ⟨Heap.get?_push_size _ rfl, Nat.le_refl _⟩
end
end Mine
end

section
set_option genSizeOf false
set_option genInjectivity false
namespace Mine
theorem meets_bool_list (l : Addr) : Meets (Builtin.«bool.__new__» ⟨[.type "bool", .ref l], []⟩) (fun _ R s => ∃ items, s.heap.IsList l items ∧ (items.size : Int) < 2 ^ 63 ∧ R (.ok (.ret (.bool (!items.isEmpty)))) { s with toks := s.toks + 1 + 1 }) :=
  Meets.of_wp fun prog w A R s hs => by
    obtain ⟨items, h1, h2, hs⟩ := hs
    obtain ⟨hp, g, d, tk, os⟩ := s
    have f1 := PySem.F.conv_sub_bool
    repeat (any_goals (first | assumption | (with_reducible refine wpAny_truthy_list h1 h2 ?_) | wp_step))
    all_goals first | exact ⟨_, rfl, hs⟩ | exact hs | skip
theorem prim_bool : PrimOk .boolOf (.type "bool") := fun {W S ρ st st' s vs us v} O => by
  match vs with
  | [a] =>
    intro h hv
    (replace hv := hv.one; obtain ⟨u, rfl, hu⟩ := hv)
    replace h := bnd_some (c := truth a) h
    obtain ⟨b, st1, h1, h⟩ := h
    (first | exact nope h | refine rt_elim h ?_ | cases h)
    unfold truth at h1
    induction a with
    | bool c => (first | exact nope h1 | refine rt_elim h1 ?_ | cases h1); cases hu; exact Does.tok O fun Q E hQ => call_bool_bool (hQ _ s.toks rfl)
    | int i => (first | exact nope h1 | refine rt_elim h1 ?_ | cases h1); obtain ⟨t, rfl⟩ := hu; exact Does.tok O fun Q E hQ => call_bool_int (hQ _ s.toks rfl)
    | none => (first | exact nope h1 | refine rt_elim h1 ?_ | cases h1); cases hu; exact Does.tok O fun Q E hQ => call_bool_none (hQ _ s.toks rfl)
    | ref k =>
      replace h1 := bnd_some h1; obtain ⟨⟨k, co⟩, st1, h2, h1⟩ := h1
      (replace h2 := look_some h2; obtain ⟨e1, e2, rfl⟩ := h2)
      dsimp only at h1 e1 e2
      (first | exact nope e1 | refine rt_elim e1 ?_ | cases e1)
      (first | (replace h1 := if_inv h1; obtain ⟨xs, h1⟩ := h1) | (replace h1 := if_inv2 h1; obtain ⟨xs, h1⟩ := h1) | (split at h1; rotate_left; (focus cases h1); rename_i xs))
      · (first | (replace h1 := if_inv h1; obtain ⟨q, h1⟩ := h1) | (replace h1 := if_inv2 h1; obtain ⟨q, h1⟩ := h1) | (split at h1; rotate_left; (focus cases h1); rename_i q))
        · (first | exact nope h1 | refine rt_elim h1 ?_ | cases h1)
          obtain ⟨aa, vs, n, rfl, _, h2, h3⟩ := O.list e2 hu
          have l1 := lenOk_le q
          have l2 := h3.length
          simp only [Array.length_toList] at l2
          refine Does.tok O fun Q E hQ => call_bool_1 (meets_bool_list aa) ⟨vs, ⟨_, h2, rfl, n, rfl⟩, by omega, ?_⟩
          have e : (!vs.isEmpty) = !xs.isEmpty := by
            have e1 : vs.isEmpty = decide (vs.size = 0) := rfl
            have e2 : xs.isEmpty = decide (xs.length = 0) := by cases xs <;> simp
            rw [e1, e2, l2]
          rw [e]
          exact ⟨rfl, hQ _ _ rfl⟩
    | _ => (first | exact nope h1 | refine rt_elim h1 ?_ | cases h1)
  | [] => intro h _; (first | exact nope h | refine rt_elim h ?_ | cases h)
  | _ :: _ :: _ => intro h _; (first | exact nope h | refine rt_elim h ?_ | cases h)
theorem prim_iter : PrimOk .iterOf (.builtin "iter") := fun {W S ρ st st' s vs us v} O => by
  match vs with
  | [a] =>
    intro h hv
    refine look1 O h hv fun i co u e2 hu e h => ?_
    subst e
    (replace h := on_list h; obtain ⟨xs, rfl, h⟩ := h)
    (replace h := alloc_some h; obtain ⟨rfl, rfl⟩ := h)
    obtain ⟨b, ws, n, rfl, g0, g1, g2⟩ := O.list e2 hu
    intro Q E hQ
    refine PySem.Calls.call_function_entry (by decide +kernel) (by decide +kernel) kdk_entry_iter (kdk_args_iter _) ?_
    unfold Builtin.«iter»
    refine wpAny_bind (m := someArgs "iter" 1 2 _) (wpAny_of_eq (a := [Value.ref b]) (by first | rfl | kernel_rfl!) ?_)
    show wpAny _ _ (pyIter (.ref b) >>= _) _ _ _
    refine wpAny_bind (wpAny_pyIter_list ⟨_, g1, rfl, n, rfl⟩ ?_)
    refine wpAny_pure ⟨_, rfl, hQ _ _ _ ⟨_, rfl⟩ (O.push rfl fun ρ' hE => ⟨_, b, [], rfl, hE.get g0, rfl⟩) (O.newRef _) Same.rfl⟩
  | [] => intro h _; (first | exact nope h | refine rt_elim h ?_ | cases h)
  | _ :: _ :: _ => intro h _; (first | exact nope h | cases h)


namespace NxF
theorem slot_ga : Slot "list_iterator" "__getattribute__" "object.__getattribute__" :=
  .of (owner := "object") (n := "__getattribute__") (by rw [typeLookup_type, builtinLookup_eq_fast]; kernel_rfl) (by decide +kernel) (by decide +kernel) (by decide +kernel)
    (by first | exact .inl (by decide +kernel) | exact .inr (by decide +kernel)) (by rw [isSubtype_type]; kernel_rfl)
theorem entry_ga : entryFor table "object.__getattribute__" = some Builtin.«object.__getattribute__» := entryFor_of_tree (by kernel_rfl)
theorem args_ga (a b : Value) : argsOk "object.__getattribute__" ⟨[a, b], []⟩ := by unfold argsOk; kernel_rfl
theorem lk_next : typeLookup (.type "list_iterator") "__next__" = pure (some (.builtin "list_iterator.__next__")) := by rw [typeLookup_type, builtinLookup_eq_fast]; kernel_rfl
theorem ty_next : typeOf (.builtin "list_iterator.__next__") = pure (.type "wrapper_descriptor") := by kernel_rfl
theorem slot_get : Slot "wrapper_descriptor" "__get__" "wrapper_descriptor.__get__" :=
  .of (owner := "wrapper_descriptor") (n := "__get__") (by rw [typeLookup_type, builtinLookup_eq_fast]; kernel_rfl) (by decide +kernel) (by decide +kernel) (by decide +kernel)
    (by first | exact .inl (by decide +kernel) | exact .inr (by decide +kernel)) (by rw [isSubtype_type]; kernel_rfl)
theorem entry_get : entryFor table "wrapper_descriptor.__get__" = some Builtin.«wrapper_descriptor.__get__» := entryFor_of_tree (by kernel_rfl)
theorem args_get (a b c : Value) : argsOk "wrapper_descriptor.__get__" ⟨[a, b, c], []⟩ := by unfold argsOk; kernel_rfl
theorem lk_set : typeLookup (.type "wrapper_descriptor") "__set__" = pure none := by rw [typeLookup_type, builtinLookup_eq_fast]; kernel_rfl
theorem lk_del : typeLookup (.type "wrapper_descriptor") "__delete__" = pure none := by rw [typeLookup_type, builtinLookup_eq_fast]; kernel_rfl
theorem owner : (".".intercalate ("list_iterator.__next__".cutAt '.').dropLast) = "list_iterator" := by
  have e0 : "list_iterator.__next__".cutAt '.' = ["list_iterator", "__next__"] := by first | rfl | decide +kernel
  rw [e0]; decide +kernel
theorem sub : isSubtype (.type "list_iterator") (.type "list_iterator") = pure true := by rw [isSubtype_type]; kernel_rfl
end NxF
section
variable {prog : Program} {w : World} {A : Around} {E : Value → Shared → Prop} {h : Heap} {g : Array GenState} {d : Drawn} {t : Nat} {os : OsState} {a : Addr} {o : Obj}
theorem nx_get {R : Result → Shared → Prop} (hx : h.get? a = some o) (hc : o.cls = .type "list_iterator")
    (hq : R (.ok (.ret (.ref h.objs.size))) ⟨h.push { cls := .type "method-wrapper", data := .fields #[.builtin "list_iterator.__next__", .ref a] }, g, d, t, os⟩) :
    codeAny (model prog w) A (.call (.builtin "wrapper_descriptor.__get__") ⟨[.builtin "list_iterator.__next__", .ref a, .type "list_iterator"], []⟩) R ⟨h, g, d, t, os⟩ := by
  have hT : (⟨h, g, d, t, os⟩ : Shared).TypeIs (.ref a) "list_iterator" := ⟨_, hx, hc⟩
  have hT5 : (⟨h, g, d, t, os⟩ : Shared).TypeIs (.builtin "list_iterator.__next__") "wrapper_descriptor" := NxF.ty_next
  have f8 : isSubtype (.type "list_iterator") (.type (".".intercalate ("list_iterator.__next__".cutAt '.').dropLast)) = pure true := by rw [NxF.owner]; exact NxF.sub
  refine codeAny_call_builtin NxF.slot_get.plain NxF.entry_get (NxF.slot_get.check _ _ _ _ _ _ _ _ hT5 (NxF.args_get _ _ _) ?_)
  repeat (any_goals (first | assumption | wp_step))
  trace_state
theorem nx_entry {tk : Tok} {vs : Array Value} {Q : Fin → Shared → Prop} (hx : h.get? a = some { cls := .type "list_iterator", data := .fields vs })
    (hq : Q (.done (.ret (.ref h.objs.size))) ⟨h.push { cls := .type "method-wrapper", data := .fields #[.builtin "list_iterator.__next__", .ref a] }, g, d, t, os⟩) :
    wpAny (model prog w) A (Builtin.«object.__getattribute__» ⟨[.ref a, .str "__next__" tk], []⟩) Q E ⟨h, g, d, t, os⟩ := by
  have hT : (⟨h, g, d, t, os⟩ : Shared).TypeIs (.ref a) "list_iterator" := ⟨_, hx, rfl⟩
  have hT5 : (⟨h, g, d, t, os⟩ : Shared).TypeIs (.builtin "list_iterator.__next__") "wrapper_descriptor" := NxF.ty_next
  have f4 := NxF.lk_next
  have f5 := NxF.ty_next
  have f6 := NxF.slot_get.lookup
  have f7 := NxF.lk_set
  have f8 := NxF.lk_del
  repeat (any_goals (first | assumption | wp_step))
  refine nx_get hx rfl ?_
  repeat (any_goals (first | assumption | wp_step))
theorem nx_by {tk : Tok} {vs : Array Value} {fill expr : Bool} {Q : Value → Shared → Prop} (hx : h.get? a = some { cls := .type "list_iterator", data := .fields vs })
    (hq : Q (.ref h.objs.size) ⟨h.push { cls := .type "method-wrapper", data := .fields #[.builtin "list_iterator.__next__", .ref a] }, g, d, t, os⟩) : wpAny (model prog w) A (getAttrBy (.ref a) (.str "__next__" tk) fill expr) Q E ⟨h, g, d, t, os⟩ := by
  have hT : (⟨h, g, d, t, os⟩ : Shared).TypeIs (.ref a) "list_iterator" := ⟨_, hx, rfl⟩
  have f2 := NxF.slot_ga.lookup
  have f3 := NxF.slot_ga.bind (.ref a)
  have hx0 : (expr && onTheHeap (Value.builtin "object.__getattribute__")) = false := by cases expr <;> rfl
  repeat (any_goals (first | assumption | wp_step))
  refine codeAny_call_builtin NxF.slot_ga.plain NxF.entry_ga (NxF.slot_ga.check _ _ _ _ _ _ _ _ hT (NxF.args_ga _ _) (nx_entry hx ?_))
  repeat (any_goals (first | assumption | wp_step))
theorem nx_attr {vs : Array Value} {expr : Bool} {Q : Value → Shared → Prop} (hx : h.get? a = some { cls := .type "list_iterator", data := .fields vs })
    (hq : Q (.ref h.objs.size) ⟨h.push { cls := .type "method-wrapper", data := .fields #[.builtin "list_iterator.__next__", .ref a] }, g, d, t + 1, os⟩) : wpAny (model prog w) A (getAttr (.ref a) "__next__" expr) Q E ⟨h, g, d, t, os⟩ := by
  unfold getAttr
  repeat (any_goals (first | assumption | with_reducible apply nx_by hx | wp_step))
end
noncomputable def TempOk (e : Expr) : Prop := ∀ {prog : Program} {w : World} {A : Around} {E : Value → Shared → Prop} {s : Shared} {x r : Value} {Q : Unit → Shared → Prop}, Q () s → wpAny (model prog w) A (letTemporaryGo e x r) Q E s
theorem temp_name {n : Str} {p : Pos} : TempOk (.Name n p) := fun h => wpAny_pure h
theorem temp_call {f : Expr} {as : List Expr} {ks : List Keyword} {p : Pos} : TempOk (.Call f as ks p) := fun {_ _ _ _ s x _ _} h => by
  cases x with
  | ref a => exact wpAny_bind (wpAny_holding (wpAny_runValue (codeAny_builtin entry_let_go (show wpAny _ _ (ret .none) _ _ s from wpAny_pure (wpAny_pure h)))))
  | _ => exact wpAny_pure h
theorem temp_sub {f k : Expr} {p : Pos} : TempOk (.Subscript f k p) := fun {_ _ _ _ s x _ _} h => by
  cases x with
  | ref a => exact wpAny_bind (wpAny_holding (wpAny_runValue (codeAny_builtin entry_let_go (show wpAny _ _ (ret .none) _ _ s from wpAny_pure (wpAny_pure h)))))
  | _ => exact wpAny_pure h
section
variable {T : Tx}
theorem SE.next {a : CE} {f : Expr} {as : List Expr} {ks : List Keyword} {p pos : Pos} (ha : SE T a (.Call f as ks p)) (hbase : ∀ env whole, attributeBase (.Call f as ks p) "__next__" env whole = whole := by intro _ _; rfl) : SE T (.prim .next [a]) (.Attribute (.Call f as ks p) "__next__" pos) := fun n C S ρ st st' s v I O h => by
  replace h := run_e h
  obtain ⟨m, rfl, h⟩ := h
  unfold stepE at h
  replace h := bnd_some h
  obtain ⟨vs, st1, h1, h⟩ := h
  unfold evs at h1
  replace h1 := bnd_some h1
  obtain ⟨x, st2, h2, h1⟩ := h1
  (first | exact nope h1 | cases h1)
  replace h := bnd_some (c := look x) h
  obtain ⟨⟨k, co⟩, st3, h3, h⟩ := h
  (replace h3 := look_some h3; obtain ⟨rfl, e2, rfl⟩ := h3)
  dsimp only at h e2
  (replace h := on_liter h; obtain ⟨l, i, rfl, h⟩ := h)
  (replace h := alloc_some h; obtain ⟨rfl, rfl⟩ := h)
  intro Q E hQ
  rw [arm_eval_Attribute, hbase]
  refine wpAny_bind (ha m C.down I O h2 _ _ fun u ρ1 s1 e1 O1 p1 m1 => wpAny_bind (wpAny_standAt (wpAny_bind (wpAny_holding ?_))))
  obtain ⟨as, os, f1, f2, b, b', ls, rfl, f3, rfl⟩ := O1.rel.at e2
  obtain ⟨c, cs, f4, rfl⟩ := p1
  rw [f1] at f4; (first | exact nope f4 | refine rt_elim f4 ?_ | cases f4)
  obtain ⟨hp, g, d, tk, os⟩ := s1
  refine nx_attr f2.1 (wpAny_bind (temp_call (wpAny_pure ?_)))
  exact hQ _ _ _ (e1.trans ⟨_, rfl⟩) (O1.push rfl fun ρ' hE => ⟨_, b, [], rfl, hE.get f1, rfl⟩) (O1.newRef _) (m1.trans Same.rfl)
end
end Mine
end

section
set_option genSizeOf false
set_option genInjectivity false
namespace Mine
section
variable (T : Tx)
noncomputable def SA (ct : CT) (tgt : Expr) : Prop := ∀ (n : Nat), Calls T.P T.W n → ∀ {S : Sit} {ρ : Rho} {st st' : St} {s : Shared} {v : CV} {u : Value} {y : Unit}, T.In S → Ok T.W S ρ st s.heap → asgT T.P (run T.P n) ct v st = some (y, st') → VRel ρ v u →
  Does T.W S ρ s (assign tgt S.env u) st' (fun _ _ => True)
end
section
variable {T : Tx}
theorem SA.var {i : Nat} {x : Str} {k : SK} {pos : Pos} (hk : T.ks[i]? = some (x, k)) (ho : k = .loc ∨ k = .cell := by decide) : SA T (.var i) (.Name x pos) := fun n _ S ρ st st' s v u y I O h hv Q E hQ =>
  wpAny_assign_Name (store_sound O (by rw [I.ks]; exact hk) ho h hv Q E hQ)
theorem SA.sub {o k : CE} {a b : Expr} {pos : Pos} (ho : SE T o a) (hk : SE T k b) : SA T (.sub o k) (.Subscript a b pos) := fun n C S ρ st st' s v u y I O h hv Q E hQ => by
  unfold asgT at h
  replace h := bnd_some h
  obtain ⟨x, st1, h1, h⟩ := h
  replace h := bnd_some h
  obtain ⟨z, st2, h2, h⟩ := h
  rw [arm_assign_Subscript]
  refine wpAny_bind (wpAny_holding (ho n C I O h1 _ _ fun u1 ρ1 s1 e1 O1 p1 m1 => wpAny_bind (wpAny_holding (hk n C I O1 h2 _ _ fun u2 ρ2 s2 e2 O2 p2 m2 => wpAny_bind (wpAny_standAt (wpAny_bind (wpAny_holding ?_)))))))
  exact setV_sound O2 h (p1.mono e2) p2 (hv.mono (e1.trans e2)) _ _ fun _ ρ3 s3 e3 O3 _ m3 => wpAny_release (hQ _ _ _ ((e1.trans e2).trans e3) O3 trivial ((m1.trans m2).trans m3))
theorem SA.vars {i j : Nat} {is : List Nat} {es : List Expr} {k : Nat} {pos : Pos} (hN : NamesOk T (i :: j :: is) es) : SA T (.vars (i :: j :: is)) (.Tuple es k pos) := fun n _ S ρ st st' s v u y I O h hv =>
  (SG.vars (k := k) (pos := pos) hN).does (x := .one v) (y := y) I O (by cases is <;> exact h) hv
theorem SS.assignT {ct : CT} {tgt : Expr} {a : CE} {e : Expr} {pos : Pos} (ht : SA T ct tgt) (ha : SE T a e) (he : notComp e = true := by rfl) (hm : ∀ env, (assignEach [tgt] env).map (·.2) = [PySem.assign tgt env] := by intro _; rfl)
    (hw : ∀ env : Env, env.scope = T.sc → swappedStores [tgt] e env = pure none) : SS T (.assign ct a) (.Assign [tgt] e pos) := fun n C S ρ st st' s f I O h => by
  replace h := run_s h
  obtain ⟨m, rfl, h⟩ := h
  unfold stepS at h
  replace h := bnd_some h
  obtain ⟨v, st1, h1, h⟩ := h
  replace h := bnd_some h
  obtain ⟨v2, st2, h2, h⟩ := h
  (first | exact nope h | refine rt_elim h ?_ | cases h)
  intro Q E hQ
  refine wpAny_Assign_stores (ha m C.down I O h1 _ _ fun c' ρ1 s1 e1 O1 p1 m1 => ?_) (swaps_no he) (hw _ I.sc)
  rw [hm]
  exact ht m C.down I O1 h2 p1 _ _ fun _ ρ2 s2 e2 O2 _ m2 => hQ _ _ _ (e1.trans e2) O2 rfl (m1.trans m2)
theorem SS.assign2 {ct1 ct2 : CT} {t1 t2 : Expr} {a : CE} {e : Expr} {pos : Pos} (ht1 : SA T ct1 t1) (ht2 : SA T ct2 t2) (ha : SE T a e) (hm : ∀ env, (assignEach [t1, t2] env).map (·.2) = [PySem.assign t1 env, PySem.assign t2 env] := by intro _; rfl)
    (hw : ∀ env : Env, swappedStores [t1, t2] e env = pure none := by intro _; rfl) : SS T (.assign2 ct1 ct2 a) (.Assign [t1, t2] e pos) := fun n C S ρ st st' s f I O h => by
  replace h := run_s h
  obtain ⟨m, rfl, h⟩ := h
  unfold stepS at h
  replace h := bnd_some h
  obtain ⟨v, st1, h1, h⟩ := h
  replace h := bnd_some h
  obtain ⟨v2, st2, h2, h⟩ := h
  replace h := bnd_some h
  obtain ⟨v3, st3, h3, h⟩ := h
  (first | exact nope h | refine rt_elim h ?_ | cases h)
  intro Q E hQ
  refine wpAny_Assign_two (ha m C.down I O h1 _ _ fun c' ρ1 s1 e1 O1 p1 m1 => ?_) (hm _) (hw _)
  exact ht1 m C.down I O1 h2 p1 _ _ fun _ ρ2 s2 e2 O2 _ m2 => ht2 m C.down I O2 h3 (p1.mono e2) _ _ fun _ ρ3 s3 e3 O3 _ m3 => hQ _ _ _ ((e1.trans e2).trans e3) O3 rfl ((m1.trans m2).trans m3)

noncomputable def BoundOk (T : Tx) : List Nat → List Str → Prop
  | [], [] => True
  | i :: is, x :: xs => (∃ k, T.ks[i]? = some (x, k) ∧ (k = .loc ∨ k = .cell)) ∧ BoundOk T is xs
  | _, _ => False
theorem bound_sound {S : Sit} (I : T.In S) : ∀ {is : List Nat} {ns : List Str} {xs : List CV} {us : List Value} {ρ : Rho} {st st' : St} {s : Shared} {y : Unit}, BoundOk T is ns → Ok T.W S ρ st s.heap → asgItems is xs st = some (y, st') → VRels ρ xs us →
    Does T.W S ρ s (assignInOrder (ns.map fun n => bindName S.env n) us) st' (fun _ _ => True)
  | [], [], xs, us, ρ, st, st', s, y, _, O, h, hv => by
    cases xs with
    | nil => (first | exact nope h | refine rt_elim h ?_ | cases h); exact fun Q E hQ => wpAny_pure (hQ _ _ _ (Ext.refl _) O trivial Same.refl)
    | cons x xs => (first | exact nope h | refine rt_elim h ?_ | cases h)
  | i :: is, e :: es, xs, us, ρ, st, st', s, y, ⟨⟨k, hk, ho⟩, r⟩, O, h, hv => by
    cases xs with
    | nil => (first | exact nope h | refine rt_elim h ?_ | cases h)
    | cons c cs =>
      cases us with
      | nil => exact hv.elim
      | cons u us =>
        unfold asgItems at h
        replace h := bnd_some h
        obtain ⟨z, st1, h1, h⟩ := h
        intro Q E hQ
        show wpAny _ _ (do holding us (bindName S.env e u); assignInOrder (es.map fun n => bindName S.env n) us) Q E s
        refine wpAny_bind (wpAny_holding (wpAny_bindName (store_sound O (by rw [I.ks]; exact hk) ho h1 hv.1 _ _ fun _ ρ1 s1 e1 O1 _ m1 => ?_)))
        exact bound_sound I r O1 h (hv.2.mono e1) _ _ fun a ρ2 s2 e2 O2 p2 m2 => hQ _ _ _ (e1.trans e2) O2 trivial (m1.trans m2)
  | [], _ :: _, _, _, _, _, _, _, _, h, _, _, _ => h.elim
  | _ :: _, [], _, _, _, _, _, _, _, h, _, _, _ => h.elim
theorem VRels.reverse {ρ : Rho} : ∀ {xs : List CV} {us : List Value}, VRels ρ xs us → VRels ρ xs.reverse us.reverse
  | [], [], _ => trivial
  | x :: xs, u :: us, ⟨h, r⟩ => by rw [List.reverse_cons, List.reverse_cons]; exact (VRels.reverse r).append ⟨h, trivial⟩
  | [], _ :: _, h => h.elim
  | _ :: _, [], h => h.elim
theorem asg_two {i j : Nat} {xs : List CV} {st st' : St} {y : Unit} (hij : i ≠ j) (h : asgItems [i, j] xs st = some (y, st')) : asgItems [j, i] xs.reverse st = some (y, st') := by
  match xs, h with
  | [a, b], h =>
    unfold asgItems at h
    replace h := bnd_some h
    obtain ⟨z, st1, h1, h⟩ := h
    unfold asgItems at h
    replace h := bnd_some h
    obtain ⟨z2, st2, h2, h⟩ := h
    (first | exact nope h | refine rt_elim h ?_ | cases h)
    (replace h1 := setL_some h1; obtain ⟨l1, rfl⟩ := h1)
    (replace h2 := setL_some h2; obtain ⟨l2, rfl⟩ := h2)
    simp only [List.length_set] at l2
    show (bnd (setL j b) fun _ => bnd (setL i a) fun _ => rt ()) st = _
    simp only [bnd, setL, l1, l2, if_true, List.length_set, rt, Option.some.injEq, Prod.mk.injEq, St.mk.injEq, and_true, true_and]
    exact List.set_comm _ _ (Ne.symm hij)
  | [], h => (first | exact nope h | refine rt_elim h ?_ | cases h)
  | [a], h => exact absurd (asgItems_len h) (by simp)
  | _ :: _ :: _ :: _, h => exact absurd (asgItems_len h) (by simp)
theorem SS.assignS {is : List Nat} {ns : List Str} {es : List Expr} {k : Nat} {tpos : Pos} {a : CE} {e : Expr} {pos : Pos} (hb : BoundOk T is.reverse ns.reverse) (hr : ∀ {xs : List CV} {st st' : St} {y : Unit}, asgItems is xs st = some (y, st') → asgItems is.reverse xs.reverse st = some (y, st')) (ha : SE T a e)
    (hw : ∀ env : Env, env.scope = T.sc → swappedStores [.Tuple es k tpos] e env = pure (some ns)) (hl : ns.length = is.length := by rfl) (he : notComp e = true := by rfl) : SS T (.assign (.vars is) a) (.Assign [.Tuple es k tpos] e pos) := fun n C S ρ st st' s f I O h => by
  replace h := run_s h
  obtain ⟨m, rfl, h⟩ := h
  unfold stepS at h
  replace h := bnd_some h
  obtain ⟨v, st1, h1, h⟩ := h
  replace h := bnd_some h
  obtain ⟨v2, st2, h2, h⟩ := h
  (first | exact nope h | refine rt_elim h ?_ | cases h)
  (replace h2 := guardD_some h2; obtain ⟨hd, h2⟩ := h2)
  replace h2 := bnd_some h2
  obtain ⟨⟨k', co⟩, st3, h3, h2⟩ := h2
  (replace h3 := look_some h3; obtain ⟨rfl, e3, rfl⟩ := h3)
  dsimp only at e3 h2
  intro Q E hQ
  refine Assign_Tuple_swapped (names := ns) (ha m C.down I O h1 _ _ fun c' ρ1 s1 e1 O1 p1 m1 => ?_) (show swapsWithSole [Expr.Tuple es k tpos] e pos.line S.env = pure false from swaps_no (t := some (.Tuple es k tpos)) (l := pos.line) (env := S.env) he) (hw _ I.sc)
  (replace h2 := on_tuple h2; obtain ⟨xs, rfl, h2⟩ := h2)
  obtain ⟨b, vs, n', rfl, _, g1, g2⟩ := O1.tuple e3 p1
  have l1 := g2.length
  have l2 := asgItems_len h2
  simp only [Array.length_toList] at l1
  rw [show ns.length = vs.size by omega]
  refine unpackItems_tuple (O1.ctx.handled (by rw [← O1.dep]; exact hd)) ⟨_, g1, rfl, n', rfl⟩ fun h' hx => ?_
  have O' : Ok T.W S ρ1 _ h' := O1.keeps fun b o e => hx b o (Nat.ne_of_lt (Heap.lt_size e)) e
  exact bound_sound (s := { s1 with heap := h' }) I hb O' (hr h2) g2.reverse _ _ fun _ ρ2 s2 e2 O2 _ m2 => hQ _ _ _ (e1.trans e2) O2 rfl (m1.trans (Same.trans Same.rfl m2))
theorem delS_rel {ρ : Rho} (k : Str) : ∀ {es : List (Str × CV)} {kvs : List (Str × Value)}, (kvs.map (·.1)).Nodup → KVRel ρ es kvs → KVRel ρ (delS es k) (without kvs k)
  | [], [], _, _ => trivial
  | e :: es, kv :: kvs, hn, ⟨h1, h2, h3⟩ => by
    rw [List.map_cons, List.nodup_cons] at hn
    unfold delS
    by_cases he : e.1 = k
    · have hk : kv.1 = k := h1 ▸ he
      rw [if_pos he]
      have : without (kv :: kvs) k = kvs := by
        have e1 : without (kv :: kvs) k = without kvs k := by unfold without; rw [List.filter_cons_of_neg (by simp [hk])]
        rw [e1, without_of_not_mem _ _ (by rw [← hk]; exact hn.1)]
      rw [this]; exact h3
    · have hk : ¬ kv.1 = k := h1 ▸ he
      rw [if_neg he]
      have : without (kv :: kvs) k = kv :: without kvs k := by unfold without; rw [List.filter_cons_of_pos (by simp [hk])]
      rw [this]; exact ⟨h1, h2, delS_rel k hn.2 h3⟩
  | [], _ :: _, _, h => h.elim
  | _ :: _, [], _, h => h.elim
theorem lkS_at {ρ : Rho} (k : Str) : ∀ {es : List (Str × CV)} {kvs : List (Str × Value)}, KVRel ρ es kvs → (lkS es k).isSome = true → (valueAt kvs k).isSome = true
  | [], [], _, h => by cases h
  | e :: es, kv :: kvs, ⟨h1, h2, h3⟩, h => by
    unfold lkS at h
    by_cases he : e.1 = k
    · have hk : kv.1 = k := h1 ▸ he
      unfold valueAt
      simp [List.find?_cons, hk]
    · have hk : ¬ kv.1 = k := h1 ▸ he
      rw [if_neg he] at h
      have := lkS_at k h3 h
      unfold valueAt at this ⊢
      simpa [List.find?_cons, hk] using this
  | [], _ :: _, h, _ => h.elim
  | _ :: _, [], h, _ => h.elim
theorem delV_sound {W : Wd} {S : Sit} {ρ : Rho} {st st' : St} {s : Shared} (O : Ok W S ρ st s.heap) {a b : CV} {u u' : Value} {x : Unit} (h : delV a b st = some (x, st')) (ha : VRel ρ a u) (hb : VRel ρ b u') :
    Does W S ρ s (delItem u u') st' (fun _ _ => True) := by
  unfold delV at h
  replace h := bnd_look h
  obtain ⟨k, co, rfl, e2, h⟩ := h
  dsimp only at h
  induction co with
  | dictS es ep =>
    induction b with
    | str x =>
      obtain ⟨t, rfl⟩ := hb
      obtain ⟨q, h⟩ := if_inv h
      rw [Bool.and_eq_true] at q
      (replace h := put_some h; obtain ⟨hlo, rfl⟩ := h)
      obtain ⟨aa, kvs, rep, rfl, hr, h2, h3, h4, h5⟩ := O.dictS e2 ha
      have hl := lenOk_le q.2
      have hl2 := h3.length
      intro Q E hQ
      refine wpAny_delItem_slot h2.dictOf.typeIs (by decide) PySem.F.slot_dict_delitem ?_
      refine call_meetsIn PySem.F.slot_dict_delitem h2.dictOf.typeIs PySem.F.entry_dict_delitem (PySem.F.args_dict_delitem_2 _ _) (meets_dict_delitem_pairs (strKind W.prog W.w) aa (strKind_is W.prog W.w x t)) ⟨kvs, h2.dictOf, by rw [sizeLine_is]; omega, lkS_at _ h3 q.1, fun h' hd hS => hQ _ ρ { s with heap := h', toks := s.toks + 1 } (Ext.refl _) ?_ trivial Same.rfl⟩
      obtain ⟨o, res, rep', g1, g2, g3, g4, g5, g6⟩ := hd
      refine O.update hr e2 hlo (same_kp hS) (os' := [o]) ⟨g1, trivial⟩ ⟨aa, o, res, _, rep', fun q => absurd rfl q, rfl, rfl, g2, g3, g4, g5, g6, ?_⟩
      exact delS_rel _ h2.nodup h3
    | _ => exact nope h
  | _ => exact nope h
theorem SS.del {o k : CE} {a b : Expr} {pos pos' : Pos} (ho : SE T o a) (hk : SE T k b) : SS T (.del o k) (.Delete [.Subscript a b pos'] pos) := fun n C S ρ st st' s f I O h => by
  replace h := run_s h
  obtain ⟨m, rfl, h⟩ := h
  unfold stepS at h
  replace h := bnd_some h
  obtain ⟨v, st1, h1, h⟩ := h
  replace h := bnd_some h
  obtain ⟨v2, st2, h2, h⟩ := h
  replace h := bnd_some h
  obtain ⟨v3, st3, h3, h⟩ := h
  (first | exact nope h | refine rt_elim h ?_ | cases h)
  intro Q E hQ
  refine wpAny_Delete (wpAny_deleteEach_cons (wpAny_delete_Subscript (ho m C.down I O h1 _ _ fun u1 ρ1 s1 e1 O1 p1 m1 => hk m C.down I O1 h2 _ _ fun u2 ρ2 s2 e2 O2 p2 m2 => ?_)))
  exact delV_sound O2 h3 (p1.mono e2) p2 _ _ fun _ ρ3 s3 e3 O3 _ m3 => wpAny_deleteEach_nil (hQ _ _ _ ((e1.trans e2).trans e3) O3 rfl ((m1.trans m2).trans m3))
theorem iadd_list {prog : Program} {w : World} {A : Around} {E : Value → Shared → Prop} {s : Shared} {a b : Addr} {vs ws : Array Value} {n m : Nat} {Q : Value → Shared → Prop} (ha : s.heap.get? a = some { cls := .type "list", data := .seq vs n }) (hb : s.heap.get? b = some { cls := .type "list", data := .seq ws m })
    (hs : vs.size + ws.size ≤ 2000000) (h : Q (.ref a) { s with heap := s.heap.update a (Obj.mapSeq fun x => x ++ ws) }) : wpAny (model prog w) A (inplaceOp .Add (.ref a) (.ref b)) Q E s := by
  have hT : s.TypeIs (.ref a) "list" := ⟨_, ha, rfl⟩
  have hU : s.TypeIs (.ref b) "list" := ⟨_, hb, rfl⟩
  unfold inplaceOp
  refine wpAny_holding ?_
  have hfi : fillsInplaceSlot (.type "list") "add" (Operator.Add == .Add) = pure false := by
    unfold fillsInplaceSlot
    show (typeLookup (.type "list") (dunderI "add") >>= fun fi => pure (fi.isSome && !isSeqSlot fi)) = pure false
    rw [PySem.F.slot_list_iadd.lookup]; rfl
  have hsi : seqSlot? (.type "list") (dunderI "add") = pure (some (.builtin "list.__iadd__")) := by
    unfold seqSlot?
    rw [PySem.F.slot_list_iadd.lookup]; rfl
  refine wpAny_bind (wpAny_typeOf hT (wpAny_bind (wpAny_of_eq hfi ?_)))
  show wpAny _ A (if false = true then _ else _) Q E s
  rw [if_neg Bool.false_ne_true]
  refine wpAny_bind (wpAny_binaryOp1_none (nm := "add") hT hU noFill_list_add ?_)
  refine wpAny_bind (wpAny_of_eq hsi ?_)
  refine wpAny_bind (wpAny_rule ?_)
  have hbig : ¬(!vs.isEmpty && Builtin.List.listTooLong (vs.size + ws.size)) = true := by
    have : Builtin.List.listTooLong (vs.size + ws.size) = false := by
      unfold Builtin.List.listTooLong
      rw [decide_eq_false_iff_not, sizeLine_is]; omega
    rw [this]; simp
  exact call_meets PySem.F.slot_list_iadd hT PySem.F.entry_list_iadd (PySem.F.args_list_iadd_2 _ _) (PySem.AutoSeq1.list___iadd___list_list_0 a vs n b ws m hbig (by rw [sizeLine_is]; omega) (by rw [sizeLine_is]; omega)) ⟨ha, hb, h⟩
theorem aug_list {W : Wd} {S : Sit} {ρ : Rho} {st st' : St} {s : Shared} (O : Ok W S ρ st s.heap) {i j : Nat} {v : CV} {u u' : Value} (h : augV .Add (.ref i) (.ref j) st = some (v, st')) (ha : VRel ρ (.ref i) u) (hb : VRel ρ (.ref j) u') :
    Does W S ρ s (inplaceOp .Add u u') st' (fun ρ' r => VRel ρ' v r) := by
  unfold augV at h
  dsimp only at h
  replace h := bnd_look h
  obtain ⟨k, co, e0, e2, h⟩ := h
  cases e0
  replace h := bnd_look h
  obtain ⟨k', co', e0, e3, h⟩ := h
  cases e0
  dsimp only at h
  induction co with
  | list xs =>
    induction co' with
    | list ys =>
      obtain ⟨q, h⟩ := if_inv h
      rw [Bool.and_eq_true] at q
      obtain ⟨hlo, rfl, rfl⟩ := put_rt h
      obtain ⟨aa, vs, n, rfl, hr, g1, g2⟩ := O.list e2 ha
      obtain ⟨bb, ws, m, rfl, hr', g1', g2'⟩ := O.list e3 hb
      have l1 := g2.length
      have l2 := g2'.length
      have l3 := lenOk_le q.1
      have l4 := lenOk_le q.2
      simp only [Array.length_toList] at l1 l2
      intro Q E hQ
      obtain ⟨n', g⟩ := mapSeq_at (fun x => x ++ ws) g1
      refine iadd_list g1 g1' (by omega) (hQ _ ρ _ (Ext.refl _) (O.update hr e2 hlo (same_kp (Heap.SameBut.update ..)) (os' := [_]) ⟨g, trivial⟩ ⟨aa, _, _, rfl, rfl, ?_⟩) ha Same.rfl)
      rw [Array.toList_append]
      exact g2.append g2'
    | _ => exact nope h
  | _ => exact nope h
theorem aug_sound {W : Wd} {S : Sit} {ρ : Rho} {st st' : St} {s : Shared} (O : Ok W S ρ st s.heap) {op : Operator} {a b v : CV} {u u' : Value} (h : augV op a b st = some (v, st')) (ha : VRel ρ a u) (hb : VRel ρ b u') :
    Does W S ρ s (inplaceOp op u u') st' (fun ρ' r => VRel ρ' v r) := by
  induction a with
  | ref i =>
    induction b with
    | ref j =>
      cases op with
      | Add => exact aug_list O h ha hb
      | _ => exact nope h
    | _ => exact nope h
  | int x =>
    induction b with
    | int y =>
      obtain ⟨t, rfl⟩ := ha
      obtain ⟨t', rfl⟩ := hb
      cases op with
      | Add => exact rt_elim h (Does.tok O fun Q E hQ => PyProof.Rows.iadd_int (hQ _ _ ⟨_, rfl⟩))
      | Sub => exact rt_elim h (Does.tok O fun Q E hQ => PyProof.Rows.isub_int (hQ _ _ ⟨_, rfl⟩))
      | BitXor => exact rt_elim h (Does.tok O fun Q E hQ => PyProof.Rows.ixor_int (hQ _ _ ⟨_, rfl⟩))
      | _ => exact nope h
    | _ => exact nope h
  | _ => exact nope h
theorem SS.aug {i : Nat} {x : Str} {k : SK} {op : Operator} {a : CE} {e : Expr} {pos pos' : Pos} (hk : T.ks[i]? = some (x, k)) (ha : SE T a e) (ho : k = .loc ∨ k = .cell := by decide) : SS T (.aug i op a) (.AugAssign (.Name x pos') op e pos) := fun n C S ρ st st' s f I O h => by
  replace h := run_s h
  obtain ⟨m, rfl, h⟩ := h
  unfold stepS at h
  replace h := bnd_some h
  obtain ⟨v, st1, h1, h⟩ := h
  replace h := bnd_some h
  obtain ⟨v2, st2, h2, h⟩ := h
  replace h := bnd_some h
  obtain ⟨v3, st3, h3, h⟩ := h
  replace h := bnd_some h
  obtain ⟨v4, st4, h4, h⟩ := h
  (first | exact nope h | refine rt_elim h ?_ | cases h)
  (replace h1 := getL_some h1; obtain ⟨e0, rfl⟩ := h1)
  have ho' : k ≠ .out := by rcases ho with rfl | rfl <;> decide
  intro Q E hQ
  refine wpAny_AugAssign_Name (load_sound O (by rw [I.ks]; exact hk) ho' e0 _ _ fun u1 ρ1 s1 e1 O1 p1 m1 => ha m C.down I O1 h2 _ _ fun u2 ρ2 s2 e2 O2 p2 m2 => ?_)
  exact aug_sound O2 h3 (p1.mono e2) p2 _ _ fun u3 ρ3 s3 e3 O3 p3 m3 => store_sound O3 (by rw [I.ks]; exact hk) ho h4 p3 _ _ fun _ ρ4 s4 e4 O4 _ m4 => hQ _ _ _ (((e1.trans e2).trans e3).trans e4) O4 rfl (((m1.trans m2).trans m3).trans m4)
end
end Mine
end

section
set_option genSizeOf false
set_option genInjectivity false
namespace Mine
noncomputable def mwObj (it : Addr) : Obj := { cls := .type "method-wrapper", data := .fields #[.builtin "list_iterator.__next__", .ref it] }
noncomputable def liObj (l : Addr) (i : Nat) : Obj := { cls := .type "list_iterator", data := .fields #[.ref l, .int i 0] }
section
variable {prog : Program} {w : World} {A : Around} {E : Value → Shared → Prop} {s : Shared}
theorem mw_check {it : Addr} : checkBoundCall "list_iterator.__next__" ⟨[.ref it], []⟩ = pure () := by first | kernel_rfl | rfl
theorem mw_quiet {it : Addr} : (Code.builtin "list_iterator.__next__" ⟨[.ref it], []⟩).quiet = true := Code.quiet_builtin _ (by decide +kernel)
theorem mw_call {mw it : Addr} {Q : Value → Shared → Prop} (hm : s.heap.get? mw = some (mwObj it))
    (h : wpAny (model prog w) A.in1 (Builtin.«list_iterator.__next__» ⟨[.ref it], []⟩) (fun fin s' => ∃ v, fin = .done (.ret v) ∧ Q v s') E s) : wpAny (model prog w) A (call (.ref mw) []) Q E s := by
  refine wpAny_call (codeAny_of_tree ?_)
  show wpAny _ A.in1 (callAny (.ref mw) ⟨[], []⟩) _ _ s
  simp only [callAny]
  refine wpAny_bind (wpAny_load hm ?_)
  simp only [mwObj, show (Value.type "method-wrapper" == Value.type "method" || Value.type "method-wrapper" == Value.type "builtin_function_or_method" || Value.type "method-wrapper" == Value.type "method-wrapper") = true by decide, if_true]
  refine (show ∀ {α : Type} {c : Prop} [Decidable c] {t e : Sem α} {Q : α → Shared → Prop} {E : Value → Shared → Prop} {A : Around} {s : Shared}, c → wpAny (model prog w) A t Q E s → wpAny (model prog w) A (if c then t else e) Q E s from fun h q => by rw [if_pos h]; exact q) (by decide) ?_
  refine wpAny_bind (wpAny_of_eq (a := ()) mw_check ?_)
  refine wpAny_bind (wpAny_pure (wpAny_pure ?_))
  refine ⟨mw_quiet, codeAny_builtin PySem.entry_listiter_next ?_⟩
  rw [Around.under_plainId (by decide +kernel) _]
  exact wpAny_mono h (fun fin s' ⟨v, e, q⟩ => by subst e; exact q) fun _ _ x => x
theorem mw_item {mw it l : Addr} {i n : Nat} {items : Array Value} {x : Value} {Q : Value → Shared → Prop} (hm : s.heap.get? mw = some (mwObj it)) (hi : s.heap.get? it = some (liObj l i)) (hl : s.heap.get? l = some { cls := .type "list", data := .seq items n }) (hx : items[i]? = some x)
    (hQ : ∀ h', h'.get? it = some (liObj l (i + 1)) → Heap.SameBut it s.heap h' → Q x { s with heap := h' }) : wpAny (model prog w) A (call (.ref mw) []) Q E s := by
  refine mw_call hm ?_
  show wpAny _ _ (field (.ref it) 0 >>= _) _ _ s
  refine wpAny_bind (wpAny_field hi rfl (x := .ref l) rfl ?_)
  show wpAny _ _ (if (Value.ref l == Value.none) = true then _ else _) _ _ s
  rw [if_neg (show ¬ ((Value.ref l == Value.none) = true) from Bool.false_ne_true)]
  show wpAny _ _ (field (.ref it) 1 >>= _) _ _ s
  refine wpAny_bind (wpAny_field hi rfl (x := .int i 0) rfl ?_)
  show wpAny _ _ (seqItems? (.ref l) >>= _) _ _ s
  refine wpAny_bind (wpAny_seqItems hl rfl ?_)
  simp only [Int.toNat_natCast, hx]
  refine wpAny_bind (wpAny_setField hi rfl (by simp) (wpAny_pure ⟨x, rfl, hQ _ ?_ (Heap.SameBut.update ..)⟩))
  have := Heap.get?_update_self (Obj.mapFields (·.setIfInBounds 1 (rawInt (↑i + 1)))) hi rfl
  rw [this]; rfl
theorem mw_end {mw it l : Addr} {i n : Nat} {items : Array Value} {Q : Value → Shared → Prop} (hh : A.handled = none) (hm : s.heap.get? mw = some (mwObj it)) (hi : s.heap.get? it = some (liObj l i)) (hl : s.heap.get? l = some { cls := .type "list", data := .seq items n }) (hx : items[i]? = none)
    (hE : ∀ h' e vs o, Heap.ExtBut it s.heap h' → h'.get? it = some o → s.heap.objs.size ≤ e → h'.get? e = some { cls := .type "StopIteration", data := .fields vs } → vs[1]? = some .none → E (.ref e) { s with heap := h' }) : wpAny (model prog w) A (call (.ref mw) []) Q E s := by
  refine mw_call hm ?_
  show wpAny _ _ (field (.ref it) 0 >>= _) _ _ s
  refine wpAny_bind (wpAny_field hi rfl (x := .ref l) rfl ?_)
  show wpAny _ _ (if (Value.ref l == Value.none) = true then _ else _) _ _ s
  rw [if_neg (show ¬ ((Value.ref l == Value.none) = true) from Bool.false_ne_true)]
  show wpAny _ _ (field (.ref it) 1 >>= _) _ _ s
  refine wpAny_bind (wpAny_field hi rfl (x := .int i 0) rfl ?_)
  show wpAny _ _ (seqItems? (.ref l) >>= _) _ _ s
  refine wpAny_bind (wpAny_seqItems hl rfl ?_)
  simp only [Int.toNat_natCast, hx]
  refine wpAny_bind (wpAny_rule (wpAny_bind (wpAny_setField hi rfl (by simp) ?_)))
  show wpAny _ _ (newExc (.type "StopIteration") [] >>= _) _ _ _
  refine wpAny_bind ?_
  simp only [newExc, newTuple]
  refine wpAny_bind (wpAny_newObj_type ?_ (by size_fits))
  refine wpAny_bind (m := firstArgMember _ _) (wpAny_of_eq (a := Value.none) (by first | rfl | (simp only [firstArgMember]; rfl)) ?_)
  refine wpAny_newObj_type ?_ (by size_fits)
  simp only [raiseNew]
  refine wpAny_bind (wpAny_handled ?_)
  first | rw [show A.in1.handled = none from hh] | rw [hh]
  refine wpAny_bind (wpAny_pure (wpAny_throw ?_))
  refine hE _ _ _ _ (((Heap.SameBut.update ..).extBut.push _).push _) (Heap.get?_push_of_some _ (Heap.get?_push_of_some _ (Heap.get?_update_self _ hi rfl))) ?_ (Heap.get?_push_size _ rfl) rfl
  rw [Heap.size_push, Heap.size_update]
  exact Nat.le_succ _
end
end Mine
end

section
set_option genSizeOf false
set_option genInjectivity false
namespace Mine
inductive ExcAt (h0 h : Heap) (e : Addr) : Prop
  | intro (oe : Obj) (vs : Array Value) (T : Addr) (oT : Obj) (ts : Array Value) (h1 : h.get? e = some oe) (h2 : oe.cls = .type "StopIteration") (h3 : oe.data = .fields vs) (h4 : vs[1]? = some (.ref T)) (h5 : T ≠ e) (h6 : h0.get? e = none) (h7 : h0.get? T = none) (h8 : h.get? T = some oT) (h9 : oT.data = .fields ts) (h10 : 3 < ts.size)
noncomputable def Chg (it : Addr) (fs : List Addr) (h0 h : Heap) : Prop := ∀ b o, h0.get? b = some o → b ≠ it → (b ∉ fs → h.get? b = some o) ∧ ∃ sl, h.get? b = some { o with slots := sl }
section
variable {M : Model} {A : Around} {E : Value → Shared → Prop} {s : Shared}
theorem excAt_flight {h0 : Heap} {e it : Addr} {fs : List Addr} {Q : Unit → Shared → Prop} (x : ExcAt h0 s.heap e) (c : Chg it fs h0 s.heap) (hi : ∃ o, s.heap.get? it = some o) (hi0 : ∃ o, h0.get? it = some o)
    (h : ∀ h', ExcAt h0 h' e → Chg it fs h0 h' → (∃ o, h'.get? it = some o) → Q () { s with heap := h' }) : wpAny M A (setFlight (.ref e) none) Q E s := by
  obtain ⟨oe, vs, T, oT, ts, e1, e2, e3, e4, e5, e6, e7, e8, e9, e10⟩ := x
  obtain ⟨o0, hi0⟩ := hi0
  obtain ⟨o1, hi⟩ := hi
  refine wpAny_setFlight_none e1 e3 e4 e8 e9 e10 (h _ ?_ ?_ ?_)
  · refine ⟨oe, vs, T, _, _, ?_, e2, e3, e4, e5, e6, e7, Heap.get?_update_self _ e8 (Obj.isFreed_of_fields (Obj.data_mapFields e9 _)), Obj.data_mapFields e9 _, by simpa using e10⟩
    rw [Heap.get?_update_other _ _ e5]; exact e1
  · intro b o hb hn
    have hbT : T ≠ b := fun q => by rw [q] at e7; rw [hb] at e7; (first | exact nope e7 | cases e7)
    rw [Heap.get?_update_other _ _ hbT]
    exact c b o hb hn
  · have hbT : T ≠ it := fun q => by rw [q] at e7; rw [hi0] at e7; (first | exact nope e7 | cases e7)
    exact ⟨o1, by rw [Heap.get?_update_other _ _ hbT]; exact hi⟩
theorem note_frame {h0 : Heap} {env : Env} {outer : List Env} {L e it : Addr} {vs : Array Value} {Q : Unit → Shared → Prop} (hfr : A.frames = some (env :: outer)) (hl : s.heap.FunFrames noHeap (env :: outer)) (hf : env.frame = some L)
    (he : s.heap.get? e = some { cls := .type "StopIteration", data := .fields vs }) (h1 : vs[1]? = some .none) (he0 : h0.get? e = none) (kx : Heap.ExtBut it h0 s.heap) (hi : ∃ o, s.heap.get? it = some o) (hi0 : ∃ o, h0.get? it = some o) (hsz : h0.objs.size ≤ s.heap.objs.size)
    (h : ∀ h', ExcAt h0 h' e → Chg it ((env :: outer).filterMap (·.frame)) h0 h' → (∃ o, h'.get? it = some o) → Q () { s with heap := h' }) : wpAny M A (noteFrame (.ref e) env) Q E s := by
  have hsz1 : 1 < vs.size := (Array.getElem?_eq_some_iff.mp h1).1
  obtain ⟨o0, hi0⟩ := hi0
  obtain ⟨o1, hi⟩ := hi
  unfold noteFrame
  simp only [hf]
  refine wpAny_bind (wpAny_field he rfl h1 ?_)
  rw [if_neg (by decide)]
  refine wpAny_bind (wpAny_frameOf_fun hfr hl hf fun h₁ hs₁ => ?_)
  refine wpAny_bind (wpAny_entryPlaceOf fun pl hpl => ?_)
  unfold EntryCells.newEntry newFields
  refine wpAny_bind (wpAny_newObj_type ?_ (hpl.sizeOk5 _ _ _ _ _))
  have hene : e ∉ (env :: outer).filterMap (·.frame) := fun hm => by
    obtain ⟨_, o, ho, hnf⟩ := hl.mem hm
    rw [he] at ho; injection ho with ho; subst ho; exact hnf vs rfl
  have he₁ : h₁.get? e = some { cls := .type "StopIteration", data := .fields vs } := (hs₁.2.1 e hene).trans he
  have he₂ := Heap.get?_push_of_some (h := h₁) { cls := .type "traceback", dict := none, data := .fields ([Value.none, .ref L, .none, rawInt L, .none] ++ (if pl.isEmpty then List.replicate 6 Value.none else pl)).toArray } he₁
  refine wpAny_setField he₂ rfl hsz1 ?_
  have hTe : h₁.objs.size ≠ e := Nat.ne_of_gt (Heap.lt_size he₁)
  have hT0 : h0.get? h₁.objs.size = none := get_big (by rw [hs₁.1]; exact hsz)
  have hd₃ := Obj.data_mapFields (o := { cls := .type "StopIteration", data := .fields vs }) (vs := vs) rfl (·.setIfInBounds 1 (Value.ref h₁.objs.size))
  have he₃ := Heap.get?_update_self (Obj.mapFields (·.setIfInBounds 1 (Value.ref h₁.objs.size))) he₂ (Obj.isFreed_of_fields hd₃)
  have hT₃ := (Heap.get?_update_other (h₁.push { cls := .type "traceback", dict := none, data := .fields ([Value.none, .ref L, .none, rawInt L, .none] ++ (if pl.isEmpty then List.replicate 6 Value.none else pl)).toArray })
    (Obj.mapFields (·.setIfInBounds 1 (Value.ref h₁.objs.size))) (Ne.symm hTe)).trans (Heap.get?_push_size h₁ rfl)
  refine h _ ⟨_, _, h₁.objs.size, _, _, he₃, Obj.cls_mapFields _ _, hd₃, by simp [hsz1], hTe, he0, hT0, hT₃, rfl, ?_⟩ ?_ ?_
  · simp only [List.size_toArray, List.length_append, List.length_cons, List.length_nil]; omega
  · intro b o hb hn
    have hbe : e ≠ b := fun q => by rw [q] at he0; rw [hb] at he0; (first | exact nope he0 | cases he0)
    have hb1 := kx b o hn hb
    rw [Heap.get?_update_other _ _ hbe]
    refine ⟨fun hbf => ?_, ?_⟩
    · exact Heap.get?_push_of_some _ ((hs₁.2.1 b hbf).trans hb1)
    · obtain ⟨sl, q⟩ := hs₁.2.2 b o hb1
      exact ⟨sl, Heap.get?_push_of_some _ q⟩
  · have hbe : e ≠ it := fun q => by rw [q] at he0; rw [hi0] at he0; (first | exact nope he0 | cases he0)
    rw [Heap.get?_update_other _ _ hbe]
    obtain ⟨sl, q⟩ := hs₁.2.2 it o1 hi
    exact ⟨_, Heap.get?_push_of_some _ q⟩
end
section
variable {W : Wd} {S : Sit} {ρ : Rho} {st : St} {h h' : Heap}
theorem Ok.raised (O : Ok W S ρ st h) {k : Nat} {co : CO} {it : Addr} {fs : List Addr} (hk : ρ[k]? = some [it]) (hc : st.heap[k]? = some co) (hlo : st.lo ≤ k) (hfs : ∀ b ∈ fs, b = S.env.locals ∨ b ∈ S.fr.map (·.1)) (c : Chg it fs h h') (hi : ∃ o, h'.get? it = some o) :
    Ok W S ρ { st with heap := st.heap.set k .dead } h' := by
  have nd := O.rel.nd
  unfold own at nd
  rw [List.nodup_append] at nd
  have hin : it ∈ own S.env S.cs ρ st.lo := List.mem_append.mpr (.inr (mem_own_obj hk hlo (.head _)))
  have hlt := (List.getElem?_eq_some_iff.mp hc).1
  have hL : S.env.locals ≠ it := fun q => nd.2.2 _ (.head _) _ (mem_own_obj hk hlo (.head _)) q
  have hcs : ∀ b ∈ S.cs, b ≠ it ∧ b ∉ fs := fun b hb => ⟨fun q => nd.2.2 _ (.tail _ hb) _ (mem_own_obj hk hlo (.head _)) q, fun q => by
    rcases hfs b q with q | q
    · exact (List.nodup_cons.mp nd.1).1 (q ▸ hb)
    · exact O.frOwn (own_local O (.tail _ hb)) q⟩
  have hobj : ∀ b ∈ (ρ.drop st.lo).flatten, b ∉ fs := fun b hb q => by
    rcases hfs b q with q | q
    · exact nd.2.2 _ (.head _) _ hb q.symm
    · exact O.frOwn (List.mem_append.mpr (.inr hb)) q
  have hB : ∀ b o, S.B b o → b ≠ it ∧ b ∉ fs := fun b o e => ⟨fun q => O.rel.off it hin o (q ▸ e), fun q => by
    rcases hfs b q with q | q
    · exact O.rel.off _ (.head _) o (q ▸ e)
    · exact O.frB e q⟩
  obtain ⟨oi, hi⟩ := hi
  refine ⟨O.base, O.blt, O.env, O.top, O.ctx, O.lo, O.dep, ?_, fun p hp => ?_, O.trk⟩
  rotate_left
  · obtain ⟨⟨o, ho, hd⟩, n1, n2⟩ := O.frs p hp
    obtain ⟨sl, q⟩ := (c _ _ ho fun q => n1 (q ▸ hin)).2
    exact ⟨⟨_, q, hd⟩, n1, n2⟩
  refine ⟨fun b o e => (c b o (O.rel.base b o e) (hB b o e).1).1 (hB b o e).2, by simp [O.rel.len], by simp [O.rel.lo], ?_, O.rel.nd, O.rel.off, ?_, ?_, O.rel.fre, ?_, O.rel.glob, O.rel.big⟩
  · intro i ci ai e1 e2
    dsimp only at e1 ⊢
    by_cases hik : i = k
    · subst hik
      rw [List.getElem?_set_self hlt] at e1
      (first | exact nope e1 | cases e1)
      rw [hk] at e2; (first | exact nope e2 | cases e2)
      refine ⟨[oi], ?_, ⟨it, oi, rfl, rfl⟩⟩
      rw [if_neg (Nat.not_lt.mpr hlo)]; exact ⟨hi, trivial⟩
    · rw [List.getElem?_set_ne (Ne.symm hik)] at e1
      obtain ⟨os, a1, a2⟩ := O.rel.obj i ci ai e1 e2
      refine ⟨os, ?_, a2⟩
      split
      · rename_i q; rw [if_pos q] at a1; exact a1
      · rename_i q
        rw [if_neg q] at a1
        have q' : st.lo ≤ i := Nat.le_of_not_lt q
        refine a1.mono fun a ha o e => (c a o e ?_).1 (hobj a (mem_own_obj e2 q' ha))
        have := flat_apart (l := ρ.drop st.lo) (i := i - st.lo) (j := k - st.lo) nd.2.1 (by rw [List.getElem?_drop, show st.lo + (i - st.lo) = i by omega]; exact e2) (by rw [List.getElem?_drop, show st.lo + (k - st.lo) = k by omega]; exact hk) (by omega) a ha
        exact fun q => this (by rw [q]; exact .head _)
  · obtain ⟨m, ⟨o, es, ep, ho, r1, r2⟩, r⟩ := O.rel.ns
    obtain ⟨sl, q⟩ := (c _ _ ho hL).2
    exact ⟨m, ⟨_, es, ep, q, r1, r2⟩, r⟩
  · intro i x e
    obtain ⟨d, u, a1, a2, ⟨o, ho, hd⟩, a4⟩ := O.rel.cel i x e
    exact ⟨d, u, a1, a2, ⟨o, (c _ _ ho (hcs d a2).1).1 (hcs d a2).2, hd⟩, a4⟩
  · intro d hd
    obtain ⟨u, o, ho, q⟩ := O.rel.cin d hd
    exact ⟨u, o, (c _ _ ho (hcs d hd).1).1 (hcs d hd).2, q⟩
noncomputable def Sit.caught (S : Sit) (e : Value) : Sit := { S with A := S.A.mark (some e), dep := 0 }
theorem Ok.into (O : Ok W S ρ st h) (e : Value) : Ok W (S.caught e) ρ { st with dep := 0 } h :=
  ⟨O.base, O.blt, O.env, O.top, ⟨fun q => absurd rfl q, Nat.lt_of_le_of_lt (Nat.add_le_add_left (Nat.zero_le _) _) O.ctx.depth, Nat.lt_of_le_of_lt (Nat.add_le_add_right (Nat.add_le_add_left (Nat.zero_le _) _) 100) O.ctx.units⟩, O.lo, rfl, ⟨O.rel.base, O.rel.len, O.rel.lo, O.rel.obj, O.rel.nd, O.rel.off, O.rel.ns, O.rel.cel, O.rel.fre, O.rel.cin, O.rel.glob, O.rel.big⟩, O.frs, fun q => absurd (show 20 < 0 from q) (by decide)⟩
theorem Ok.outOf {ρ' : Rho} {st' : St} {e : Value} (O2 : Ok W (S.caught e) ρ' st' h') (O : Ok W S ρ st h) : Ok W S ρ' { st' with dep := st.dep } h' :=
  ⟨O2.base, O2.blt, O2.env, O2.top, O.ctx, O2.lo, O.dep, ⟨O2.rel.base, O2.rel.len, O2.rel.lo, O2.rel.obj, O2.rel.nd, O2.rel.off, O2.rel.ns, O2.rel.cel, O2.rel.fre, O2.rel.cin, O2.rel.glob, O2.rel.big⟩, O2.frs, O.trk⟩
theorem funFrames {h1 : Heap} {l : List Env} (hl : ∀ e ∈ l, e.scope.kind ≠ .module ∧ ∃ L o, e.frame = some L ∧ h1.get? L = some o ∧ ∃ es ep, o.data = .dict es ep) : h1.FunFrames noHeap l := by
  induction l with
  | nil => trivial
  | cons e r ih =>
    obtain ⟨g1, L, o, g2, g3, es, ep, g4⟩ := hl e (.head _)
    exact ⟨g1, ⟨L, o, g2, noHeap_get _, g3, fun vs q => by rw [g4] at q; cases q⟩, ih fun e he => hl e (.tail _ he)⟩
end
section
variable {T : Tx}
theorem BN.quiet {x : Str} {f : Value} {np : Pos} (b : BN T x f) {S : Sit} {ρ : Rho} {st : St} {s : Shared} (I : T.In S) (O : Ok T.W S ρ st s.heap) {Q E : Value → Shared → Prop} (h : Q f s) : wpAny (model T.W.prog T.W.w) S.A (eval (.Name x np) S.env) Q E s := by
  refine Calls.Name_function_global O.env.kind (kindOf_eq I.sc b.sc) ?_ b.debug
  unfold loadGlobal
  rw [O.env.glob]
  refine wpAny_bind ((looks_nsIn O.inK b.top) _ _ _ s (fun _ _ e => e) ?_)
  rw [O.env.blt]
  obtain ⟨o, es, ep, b1, b2, b3, b4⟩ := O.blt
  refine wpAny_bind (wpAny_nsGet (m := fun y => nsFind es y) ⟨o, es, ep, O.rel.base _ _ b1, b2, b3, fun _ => rfl⟩ ?_)
  rw [b4 x b.name, b.boot]
  exact wpAny_pure h
theorem stop_exc : isSubtype (.type "StopIteration") (.type "BaseException") = pure true := by rw [isSubtype_type]; kernel_rfl
theorem stop_meta : isSubtype (.type ((Manifest.find? "StopIteration").elim "type" fun x => x.metatype)) (.type "tuple") = pure false := by
  have : (Manifest.find? "StopIteration").elim "type" (fun x => x.metatype) = "type" := by decide +kernel
  rw [this, isSubtype_type]; kernel_rfl
noncomputable def tryTail (T : Tx) (m i : Nat) (handler : List CS) (k l j : Nat) (o : Option CV) : M CF := match o with
  | some x => bnd (put k (.liter l (j + 1))) fun _ => bnd (setL i x) fun _ => rt .brk
  | none => fun st => if decide (st.lo ≤ k) && decide (20 < st.dep) then (match (run T.P m).b handler { st with heap := st.heap.set k .dead, dep := 0 } with
    | some (fl, st') => some (fl, { st' with dep := st.dep })
    | none => none) else none
inductive TryPre (T : Tx) (n i : Nat) (f : CE) (handler : List CS) (st : St) (r : CF × St) : Prop
  | intro (m k0 k1 l j : Nat) (xs : List CV) (st1 : St) (e : n = m + 1) (h1 : (run T.P m).e f st = some (.ref k0, st1)) (e2 : st1.heap[k0]? = some (.nextm k1)) (e3 : st1.heap[k1]? = some (.liter l j)) (e4 : st1.heap[l]? = some (.list xs))
      (h : tryTail T m i handler k1 l j xs[j]? st1 = some r)
theorem ref_inj {a b : Nat} (h : CV.ref a = .ref b) : a = b := by cases h; rfl
theorem try_pre {n i : Nat} {f : CE} {handler : List CS} {st : St} {r : CF × St} (h : (run T.P n).s (.tryNext i f handler) st = some r) : TryPre T n i f handler st r := by
  obtain ⟨m, e, h0⟩ := run_s h
  clear h
  unfold stepS at h0
  replace h0 := bnd_some h0
  obtain ⟨v, st1, h1, h0⟩ := h0
  replace h0 := bnd_look h0
  obtain ⟨k0, co, rfl, e2, h0⟩ := h0
  replace h0 := on_nextm h0
  obtain ⟨k1, rfl, h0⟩ := h0
  replace h0 := bnd_look h0
  obtain ⟨k2, co, e0, e3, h0⟩ := h0
  obtain rfl := ref_inj e0
  replace h0 := on_liter h0
  obtain ⟨l, j, rfl, h0⟩ := h0
  replace h0 := bnd_look h0
  obtain ⟨k3, co, e1, e4, h0⟩ := h0
  obtain rfl := ref_inj e1
  replace h0 := on_list h0
  obtain ⟨xs, rfl, h0⟩ := h0
  refine ⟨m, k0, _, _, j, xs, st1, e, h1, e2, e3, e4, ?_⟩
  revert h0
  generalize xs[j]? = o
  intro h0
  induction o with
  | none => exact h0
  | some _ => exact h0
inductive TryAt (ρ : Rho) (h : Heap) (k1 l j : Nat) (xs : List CV) (u : Value) : Prop
  | intro (mw it la : Addr) (vs : Array Value) (nn : Nat) (e : u = .ref mw) (f3 : ρ[k1]? = some [it]) (g3 : ρ[l]? = some [la]) (hm : h.get? mw = some (mwObj it)) (hi : h.get? it = some (liObj la j)) (hl : h.get? la = some { cls := .type "list", data := .seq vs nn }) (q3 : VRels ρ xs vs.toList)
theorem try_at {k0 k1 l j : Nat} {xs : List CV} {u : Value} {S : Sit} {ρ : Rho} {st : St} {h : Heap} (O : Ok T.W S ρ st h) (p : VRel ρ (.ref k0) u) (e2 : st.heap[k0]? = some (.nextm k1)) (e3 : st.heap[k1]? = some (.liter l j)) (e4 : st.heap[l]? = some (.list xs)) : TryAt ρ h k1 l j xs u := by
  obtain ⟨as, os, f1, f2, mw, it, ls, rfl, f3, rfl⟩ := O.rel.at e2
  obtain ⟨mw', ms, f4, rfl⟩ := p
  rw [f1] at f4; cases f4
  obtain ⟨as', os', g1, g2, it', la, las, rfl, g3, rfl⟩ := O.rel.at e3
  rw [f3] at g1; cases g1
  obtain ⟨as'', os'', q1, q2, la', vs, nn, rfl, rfl, q3⟩ := O.rel.at e4
  rw [g3] at q1; cases q1
  exact ⟨mw, it, la, vs, nn, rfl, f3, g3, f2.1, g2.1, q2.1, q3⟩
theorem try_item {S : Sit} {ρ : Rho} {st : St} {s : Shared} {k2 k3 j mw it la nn : Nat} {xs : List CV} {vs : Array Value} {c : CV} {Q E : Value → Shared → Prop} (O : Ok T.W S ρ st s.heap) (hlo : st.lo ≤ k2) (e3 : st.heap[k2]? = some (.liter k3 j)) (f3 : ρ[k2]? = some [it]) (g3 : ρ[k3]? = some [la]) (hm : s.heap.get? mw = some (mwObj it))
    (hi : s.heap.get? it = some (liObj la j)) (hl : s.heap.get? la = some { cls := .type "list", data := .seq vs nn }) (q3 : VRels ρ xs vs.toList) (q0 : xs[j]? = some c) (h : ∀ w h', VRel ρ c w → Ok T.W S ρ { st with heap := st.heap.set k2 (.liter k3 (j + 1)) } h' → Q w { s with heap := h' }) : wpAny (model T.W.prog T.W.w) S.A (call (.ref mw) []) Q E s := by
  obtain ⟨w, r1, r2⟩ := some_of_get q3 q0
  exact mw_item hm hi hl r1 fun h' hi' hS => h w h' r2 (O.update (co' := .liter k3 (j + 1)) f3 e3 hlo (same_kp hS) (os' := [liObj la (j + 1)]) ⟨hi', trivial⟩ ⟨it, la, [], rfl, g3, rfl⟩)
theorem try_frames {S : Sit} {outer : List Env} (t2 : S.env.frame = some S.env.locals) (t3 : ∀ e ∈ outer, e.scope.kind ≠ .module ∧ ∃ p ∈ S.fr, e.frame = some p.1 ∧ ∃ es ep, p.2 = .dict es ep) : ∀ b ∈ (S.env :: outer).filterMap (·.frame), b = S.env.locals ∨ b ∈ S.fr.map (·.1) := fun b hb => by
  obtain ⟨e', he', hbe⟩ := List.mem_filterMap.mp hb
  rcases List.mem_cons.mp he' with rfl | he'
  · rw [t2] at hbe; exact .inl (Option.some.inj hbe).symm
  · obtain ⟨_, p, hp, z2, _⟩ := t3 e' he'
    rw [z2] at hbe
    exact .inr (List.mem_map.mpr ⟨p, hp, Option.some.inj hbe⟩)
theorem try_fun {S : Sit} {ρ : Rho} {st : St} {h h' : Heap} {it : Addr} {outer : List Env} (O : Ok T.W S ρ st h) (hin : it ∈ (ρ.drop st.lo).flatten) (t2 : S.env.frame = some S.env.locals) (t3 : ∀ e ∈ outer, e.scope.kind ≠ .module ∧ ∃ p ∈ S.fr, e.frame = some p.1 ∧ ∃ es ep, p.2 = .dict es ep) (kx : Heap.ExtBut it h h') : h'.FunFrames noHeap (S.env :: outer) := funFrames fun e he => by
  have nd := O.rel.nd
  unfold own at nd
  rw [List.nodup_append] at nd
  rcases List.mem_cons.mp he with rfl | he
  · obtain ⟨_, ⟨o, es, ep, ho, hdd, _⟩, _⟩ := O.rel.ns
    exact ⟨by rw [O.env.kind]; decide, _, o, t2, kx _ _ (fun q => nd.2.2 _ (.head _) _ hin q) ho, es, ep, hdd⟩
  · obtain ⟨z1, p, hp, z2, es, ep, z3⟩ := t3 e he
    obtain ⟨⟨o, z4, z5⟩, z6, _⟩ := O.frs p hp
    exact ⟨z1, p.1, o, z2, kx _ _ (fun q => z6 (q ▸ List.mem_append.mpr (.inr hin))) z4, es, ep, z5.trans z3⟩
theorem try_stop {S : Sit} {ρ : Rho} {st : St} {s : Shared} {k2 j mw it la nn : Nat} {xs : List CV} {vs : Array Value} {Q E H : Value → Shared → Prop} (O : Ok T.W S ρ st s.heap) (hlo : st.lo ≤ k2) (hdep : 20 < st.dep) (f3 : ρ[k2]? = some [it]) (hm : s.heap.get? mw = some (mwObj it))
    (hi : s.heap.get? it = some (liObj la j)) (hl : s.heap.get? la = some { cls := .type "list", data := .seq vs nn }) (q3 : VRels ρ xs vs.toList) (q0 : xs[j]? = none) (h : ∀ fs e h3, (∀ b ∈ fs, b = S.env.locals ∨ b ∈ S.fr.map (·.1)) → ExcAt s.heap h3 e → Chg it fs s.heap h3 → (∃ o, h3.get? it = some o) → H (.ref e) { s with heap := h3 }) :
    wpAny (model T.W.prog T.W.w) S.A (call (.ref mw) []) Q (fun e s1 => wpAny (model T.W.prog T.W.w) S.A (noteFrame e S.env) (fun _ s2 => wpAny (model T.W.prog T.W.w) S.A (setFlight e none) (fun _ s3 => H e s3) E s2) E s1) s := by
  obtain ⟨outer, t1, t2, t3⟩ := O.trk (by rw [← O.dep]; exact hdep)
  have hin := mem_own_obj f3 hlo (.head _)
  refine mw_end (O.ctx.handled (by rw [← O.dep]; exact Nat.ne_of_gt (Nat.lt_of_le_of_lt (Nat.zero_le _) hdep))) hm hi hl (none_of_len q3 q0) fun h' e ws oi kx hi' he1 he2 he3 => ?_
  refine note_frame (h0 := s.heap) (s := { s with heap := h' }) t1 (try_fun O hin t2 t3 kx) t2 he2 he3 (get_big he1) kx ⟨_, hi'⟩ ⟨_, hi⟩ (Nat.le_of_lt (Nat.lt_of_le_of_lt he1 (Heap.lt_size he2))) fun h2 x2 c2 i2 => ?_
  exact excAt_flight (s := { s with heap := h2 }) x2 c2 i2 ⟨_, hi⟩ fun h3 x3 c3 i3 => h _ _ _ (try_frames t2 t3) x3 c3 i3
theorem try_tail {m i k l j : Nat} {handler : List CS} {x : CV} {st : St} {r : CF × St} (h : tryTail T m i handler k l j (some x) st = some r) : st.lo ≤ k ∧ ∃ st6, setL i x { st with heap := st.heap.set k (.liter l (j + 1)) } = some ((), st6) ∧ (CF.brk, st6) = r := by
  change bnd (put k (.liter l (j + 1))) (fun _ => bnd (setL i x) fun _ => rt .brk) st = some r at h
  replace h := bnd_some h
  obtain ⟨y, st5, h5, h⟩ := h
  (replace h5 := put_some h5; obtain ⟨hlo, rfl⟩ := h5)
  replace h := bnd_some h
  obtain ⟨y', st6, h6, h⟩ := h
  exact ⟨hlo, st6, h6, Option.some.inj h⟩
theorem try_none {m i k l j : Nat} {handler : List CS} {st : St} {r : CF × St} (h : tryTail T m i handler k l j none st = some r) : st.lo ≤ k ∧ 20 < st.dep ∧ ∃ fl st7, (run T.P m).b handler { st with heap := st.heap.set k .dead, dep := 0 } = some (fl, st7) ∧ (fl, { st7 with dep := st.dep }) = r := by
  change (if (decide (st.lo ≤ k) && decide (20 < st.dep)) = true then (match (run T.P m).b handler { st with heap := st.heap.set k .dead, dep := 0 } with | some (fl, st') => some (fl, { st' with dep := st.dep }) | none => none) else none) = some r at h
  replace h := if_inv2 h
  obtain ⟨qd, h⟩ := h
  rw [Bool.and_eq_true, decide_eq_true_eq, decide_eq_true_eq] at qd
  refine ⟨qd.1, qd.2, ?_⟩
  revert h
  generalize (run T.P m).b handler { st with heap := st.heap.set k .dead, dep := 0 } = o
  intro h
  induction o with
  | none => exact nope h
  | some p => exact ⟨p.1, p.2, rfl, Option.some.inj h⟩
theorem SS.tryNext {i : Nat} {x : Str} {k : SK} {f : CE} {fe : Expr} {handler : List CS} {b0 : Stmt} {suite : List Stmt} {p1 p2 p3 p4 p5 p6 cpos : Pos} (hk : T.ks[i]? = some (x, k)) (hf : SE T f fe) (hb : SB T handler (b0 :: suite)) (bn : BN T "StopIteration" (.type "StopIteration"))
    (hcall : ∀ env, eval (.Call fe [] [] cpos) env = (do callWith cpos (← eval fe env) [] (backTo cpos (starEach [] env)) (backToKw cpos (keywordEach [] env))) := by intro _; rfl) (ho : k = .loc ∨ k = .cell := by decide) :
    SS T (.tryNext i f handler) (.Try [.Assign [.Name x p1] (.Call fe [] [] cpos) p2, .Break p3] [.ExceptHandler (some (.Name "StopIteration" p4)) none (b0 :: suite) p5] [] [] p6) := fun n C S ρ st st' s fl I O h => by
  replace h := try_pre h
  obtain ⟨m, k0, k2, k3, j, xs, st4, rfl, h1, e2, e3, e4, h⟩ := h
  intro Q E hQ
  refine wpAny_Try_except (wpAny_execs_cons (wpAny_Assign_Name ?_ (swaps_no (e := .Call fe [] [] cpos) rfl)))
  rw [hcall]
  refine wpAny_bind (hf m C.down I O h1 _ _ fun u ρ1 s1 e1 O1 p1 m1 => ?_)
  obtain ⟨mw, it, la, vs, nn, rfl, f3, g3, hm, hi, hl, q3⟩ := try_at O1 p1 e2 e3 e4
  clear p1 O h1 e2 e4
  refine callWith_of (P := fun h => h.get? mw = some (mwObj it)) rfl (fun hh hP => ⟨.machine, .inr (.inl rfl), ?_⟩) ?_
  · intro A' Q' E' s' kk q
    unfold keeperOf
    refine wpAny_bind (wpAny_load (kk _ _ hP) ?_)
    exact wpAny_pure q
  unfold evalArgs
  show wpAny _ _ (spliced [] >>= _) _ _ _
  refine wpAny_bind (wpAny_items_nil (pos := cpos) (env := S.env) ?_)
  refine wpAny_bind (wpAny_pure ?_)
  refine wpAny_holding ?_
  refine wpAny_bind (wpAny_pure (wpAny_bind (wpAny_pure (wpAny_pure ?_))))
  refine ⟨hm, ?_⟩
  cases q0 : xs[j]? with
  | some c =>
    rw [q0] at h
    obtain ⟨hlo, st6, h6, h⟩ := try_tail h
    obtain ⟨rfl, rfl⟩ := pair_inv h
    refine try_item O1 hlo e3 f3 g3 hm hi hl q3 q0 fun w h' r2 O2 => ?_
    refine store_sound (s := { s1 with heap := h' }) O2 (by rw [I.ks]; exact hk) ho h6 r2 _ _ fun _ ρ2 s2 e2 O3 _ m2 => ?_
    exact wpAny_execs_cons (wpAny_Break (hQ _ _ _ (e1.trans e2) O3 rfl (m1.trans (Same.trans Same.rfl m2))))
  | none =>
    rw [q0] at h
    obtain ⟨hlo, hdep, fl', st7, q4, h⟩ := try_none h
    obtain ⟨rfl, rfl⟩ := pair_inv h
    refine try_stop O1 hlo hdep f3 hm hi hl q3 q0 fun fs e h3 hfs x3 c3 i3 => ?_
    have O3 := O1.raised f3 e3 hlo hfs c3 i3
    have I' : T.In (S.caught (.ref e)) := ⟨I.sc, I.ks⟩
    refine wpAny_handleBy_builtin (X := "StopIteration") (T := "StopIteration") (b := true) stop_exc stop_meta isSubtype_stop ?_
    refine bn.quiet (s := { s1 with heap := h3 }) I' (O3.into (.ref e)) ⟨rfl, ?_, ?_⟩
    · obtain ⟨oe, _, _, _, _, z1, z2, _⟩ := x3
      exact ⟨oe, z1, z2⟩
    rw [if_pos rfl]
    refine excAt_flight (s := { s1 with heap := h3 }) x3 c3 i3 ⟨_, hi⟩ fun h4 x4 c4 i4 => ?_
    refine hb m C.down (s := { s1 with heap := h4 }) I' ((O1.raised f3 e3 hlo hfs c4 i4).into (.ref e)) q4 _ _ fun r ρ5 s5 e5 O5 p5 m5 => ?_
    exact hQ _ _ _ (e1.trans e5) (O5.outOf O1) p5 (m1.trans (Same.trans Same.rfl m5))
end
end Mine
end

section
set_option genSizeOf false
set_option genInjectivity false
namespace Mine
theorem isStr_of {x y : Str} {v : Value} (h : v.isStrOf x = true) : v.isStr y = decide (x = y) := by
  obtain ⟨t, rfl⟩ := Value.isStrOf_shape h
  show (x == y) = _
  by_cases e : x = y <;> simp [e]
section
variable {prog : Program} {w : World} {ρ : Rho}
theorem find_rel {x : Str} {c : CV} {as : List (Str × CV)} {es : List DictEntry} {kvs : List (Str × Value)} (hp : Pairs (strKind prog w) es kvs) (hk : KVRel ρ as kvs) (h : lkS as x = some c) : ∃ e, es.find? (·.key.isStr x) = some e ∧ VRel ρ c e.val := by
  induction hp generalizing as with
  | nil =>
    cases as with
    | nil => exact nope h
    | cons _ _ => exact False.elim hk
  | @cons e kv _ _ h1 h2 h3 ih =>
    cases as with
    | nil => exact nope h
    | cons a as =>
      have hs : e.key.isStr x = decide (kv.1 = x) := isStr_of h1
      unfold lkS at h
      by_cases q : a.1 = x
      · rw [if_pos q] at h
        (first | exact nope h | refine some_elim h ?_ | cases h)
        exact ⟨e, by rw [List.find?_cons, hs]; simp [← hk.1, q], by rw [h2]; exact hk.2.1⟩
      · rw [if_neg q] at h
        obtain ⟨e', f1, f2⟩ := ih hk.2.2 h
        exact ⟨e', by rw [List.find?_cons, hs]; simp [← hk.1, q, f1], f2⟩
theorem find_none {x : Str} {as : List (Str × CV)} {es : List DictEntry} {kvs : List (Str × Value)} (hp : Pairs (strKind prog w) es kvs) (hk : KVRel ρ as kvs) (h : lkS as x = none) : es.find? (·.key.isStr x) = none := by
  induction hp generalizing as with
  | nil => rfl
  | @cons e kv es kvs h1 h2 h3 ih =>
    cases as with
    | nil => exact hk.elim
    | cons a as =>
      obtain ⟨r1, r2, r3⟩ := hk
      have hs : e.key.isStr x = decide (kv.1 = x) := isStr_of h1
      unfold lkS at h
      by_cases q : a.1 = x
      · rw [if_pos q] at h; (first | exact nope h | refine some_elim h ?_ | cases h)
      · rw [if_neg q] at h
        rw [List.find?_cons, hs, decide_eq_false (by rw [← r1]; exact q)]
        exact ih r3 h
theorem no_ref {es : List DictEntry} {kvs : List (Str × Value)} (h : Pairs (strKind prog w) es kvs) : es.any (·.refKey) = false := by
  induction h with
  | nil => rfl
  | @cons e kv _ _ h1 _ _ ih =>
    rw [List.any_cons, ih]
    obtain ⟨t, q⟩ := Value.isStrOf_shape h1
    unfold DictEntry.refKey; rw [q]; rfl
inductive look_some_R (x : Str) (c : CV) (res : Array DictEntry) (ep : Nat) : Prop
  | intro v (f1 : lookIn x { cls := .type "dict", data := .dict res ep } = some (some v)) (f2 : VRel ρ c v)
theorem look_some' {x : Str} {c : CV} {as : List (Str × CV)} {res : Array DictEntry} {ep : Nat} {kvs : List (Str × Value)} (hp : Pairs (strKind prog w) res.toList kvs) (hk : KVRel ρ as kvs) (h : lkS as x = some c) : look_some_R (ρ := ρ) x c res ep := by
  obtain ⟨e, f1, f2⟩ := find_rel hp hk h
  exact ⟨e.val, by unfold lookIn; dsimp only; rw [f1], f2⟩
theorem look_none' {x : Str} {as : List (Str × CV)} {res : Array DictEntry} {ep : Nat} {kvs : List (Str × Value)} (hp : Pairs (strKind prog w) res.toList kvs) (hk : KVRel ρ as kvs) (h : lkS as x = none) : lookIn x { cls := .type "dict", data := .dict res ep } = some none := by
  unfold lookIn; dsimp only
  rw [find_none hp hk h, no_ref hp]; rfl
theorem putL_rel {x : Str} {v : Value} {t : Tok} {es : List DictEntry} {kvs : List (Str × Value)} (hn : (kvs.map (·.1)).Nodup) (hp : Pairs (strKind prog w) es kvs) : Pairs (strKind prog w) (putL x (PyData.keyHash w.params x) (.str x t) v es) (stored kvs x v) := by
  induction hp with
  | nil => exact .cons (kv := (x, v)) (by show (x == x) = true; simp) rfl .nil
  | @cons e kv es kvs h1 h2 h3 ih =>
    rw [List.map_cons, List.nodup_cons] at hn
    have hs : e.key.isStr x = decide (kv.1 = x) := isStr_of h1
    unfold putL
    by_cases q : kv.1 = x
    · rw [hs, decide_eq_true q, if_pos rfl]
      have e1 : stored (kv :: kvs) x v = (kv.1, v) :: kvs := by
        unfold stored
        simp only [List.any_cons, q, decide_true, Bool.true_or, if_true, List.map_cons]
        rw [map_store_of_not_mem _ _ _ (by rw [← q]; exact hn.1)]
      rw [e1]
      exact .cons (kv := (kv.1, v)) h1 rfl h3
    · rw [hs, decide_eq_false q, if_neg Bool.false_ne_true, stored_cons_ne q]
      exact .cons h1 h2 (ih hn.2)
theorem putL_keys {x : Str} {v : Value} {t : Tok} : ∀ {es : List DictEntry}, (∀ e ∈ es, ∃ k, (strKind prog w).is k e.key = true ∧ e.hash = (strKind prog w).hash k) → ∀ e ∈ putL x (PyData.keyHash w.params x) (.str x t) v es, ∃ k, (strKind prog w).is k e.key = true ∧ e.hash = (strKind prog w).hash k
  | [], _, e, he => by
    rw [List.mem_singleton.mp he]
    exact ⟨x, by show (x == x) = true; simp, rfl⟩
  | a :: es, h, e, he => by
    unfold putL at he
    split at he
    · rcases List.mem_cons.mp he with rfl | he
      · exact h a (.head _)
      · exact h e (.tail _ he)
    · rcases List.mem_cons.mp he with rfl | he
      · exact h _ (.head _)
      · exact putL_keys (fun e he => h e (.tail _ he)) e he
theorem putL_len {x : Str} {v : Value} {t : Tok} {hsh : Int} : ∀ {es : List DictEntry}, (putL x hsh (.str x t) v es).length ≤ es.length + 1
  | [] => Nat.le_refl _
  | a :: es => by
    unfold putL
    split
    · simp
    · simp only [List.length_cons]; have := putL_len (x := x) (v := v) (t := t) (hsh := hsh) (es := es); omega
theorem stored_nodup {x : Str} {v : Value} : ∀ {kvs : List (Str × Value)}, (kvs.map (·.1)).Nodup → ((stored kvs x v).map (·.1)).Nodup := by
  intro kvs hn
  unfold stored
  split
  · rw [keys_map_store]; exact hn
  · rename_i q
    rw [List.map_append, List.nodup_append]
    refine ⟨hn, by simp, fun a ha b hb e => ?_⟩
    have hb : b = x := by simpa using hb
    obtain ⟨kv, hkv, rfl⟩ := List.mem_map.mp ha
    exact q (List.any_eq_true.mpr ⟨kv, hkv, by simp [e, hb]⟩)
end
structure PlainAt (K : Frag) (C : Addr) (x : Str) : Prop where
  ga : findIn K (.ref C) "__getattribute__" = some (some (.builtin "object.__getattribute__"))
  no : findIn K (.ref C) x = some none
  has : (clsIn K C).any (·.hasDict) = true
  set : findIn K (.ref C) "__setattr__" = some (some (.builtin "object.__setattr__"))
  over : plainOver K C = true
structure SlotAt (K : Frag) (C : Addr) (x : Str) (i : Nat) : Prop where
  ga : findIn K (.ref C) "__getattribute__" = some (some (.builtin "object.__getattribute__"))
  gk : findIn K (.ref C) "__getattr__" = some none
  set : findIn K (.ref C) "__setattr__" = some (some (.builtin "object.__setattr__"))
  over : plainOver K C = true
  ex : ∃ p, findObj K C none x = some (.bind (.builtin "member_descriptor.__get__") (.ref p)) ∧ (∀ od, findObj K C od x = some (.bind (.builtin "member_descriptor.__get__") (.ref p))) ∧ slotIn K p C = some i ∧ takerIn K C x = some (some (.ref p)) ∧ typeIn K (.ref p) = some (.type "member_descriptor")
  lt : i < 1000
noncomputable def AttrOk (P : Prog) (K : Frag) (x : Str) : Prop := ∀ C c, P.cls C = some c → (c.slot = false → PlainAt K C x) ∧ (c.slot = true → ∀ i, idxOf c.attrs x = some i → SlotAt K C x i)
theorem PlainAt.find {K : Frag} {C : Addr} {x : Str} (p : PlainAt K C x) {o : Obj} {v : Value} (h : lookIn x o = some (some v)) : findObj K C (some o) x = some (.value v) := by
  obtain ⟨cd, hc, hh⟩ := any_some p.has
  unfold findObj
  rw [hc, p.no]
  simp only [Option.bind_some, PySem.W.ownOf, hh, if_true, h]
theorem handed_of {ρ : Rho} {c : CV} {v : Value} (h : VRel ρ c v) (hc : ∀ u, c ≠ .lit u) : handedIn v = true := by
  induction c with
  | none => (first | exact nope h | refine some_elim h ?_ | cases h); rfl
  | bool b => (first | exact nope h | refine some_elim h ?_ | cases h); rfl
  | int i => obtain ⟨t, rfl⟩ := h; rfl
  | str i => obtain ⟨t, rfl⟩ := h; rfl
  | ref k => obtain ⟨a, as, _, rfl⟩ := h; rfl
  | lit u => exact absurd rfl (hc u)
end Mine
end

section
set_option genSizeOf false
set_option genInjectivity false
namespace Mine
section
variable {W : Wd} {P : Prog} {S : Sit} {ρ : Rho} {st st' : St} {s : Shared} {h h' : Heap}
inductive Ok_instR (k : Nat) (C : Addr) (as : List (Str × CV)) (u : Value) : Prop
  | intro a d res ep kvs (f1 : u = .ref a) (f2 : ρ[k]? = some [a, d]) (f3 : h.get? a = some (instObj C d)) (f4 : h.get? d = some { cls := .type "dict", data := .dict res ep }) (f5 : KeysOf (strKind W.prog W.w) res) (f6 : Pairs (strKind W.prog W.w) res.toList kvs) (f7 : (kvs.map (·.1)).Nodup) (f8 : KVRel ρ as kvs)
theorem Ok.inst (O : Ok W S ρ st h) {k : Nat} {C : Addr} {as : List (Str × CV)} {u : Value} (e : st.heap[k]? = some (.inst C as)) (hu : VRel ρ (.ref k) u) :
Ok_instR (W := W) (ρ := ρ) (h := h) k C as u := by
  obtain ⟨xs, os, h1, h2, a, d, o, res, ep, kvs, rfl, rfl, rfl, h3, h4, h5, h6⟩ := O.rel.at e
  obtain ⟨b, bs, h7, rfl⟩ := hu
  rw [h1] at h7; (first | exact nope h7 | refine rt_elim h7 ?_ | cases h7)
  exact ⟨_, d, res, ep, kvs, rfl, h1, h2.1, h2.2.1, h3, h4, h5, h6⟩
inductive Ok_slotsR (k : Nat) (C : Addr) (as : List (Option CV)) (u : Value) : Prop
  | intro a d sl o (f1 : u = .ref a) (f2 : ρ[k]? = some [a, d]) (f3 : h.get? a = some { cls := .ref C, dict := some d, data := .plain, slots := sl }) (f4 : h.get? d = some o) (f5 : ∀ (i : Nat) (c : CV), as[i]? = some (some c) → ∃ v, (sl[i]?).join = some v ∧ VRel ρ c v)
theorem Ok.slots (O : Ok W S ρ st h) {k : Nat} {C : Addr} {as : List (Option CV)} {u : Value} (e : st.heap[k]? = some (.slots C as)) (hu : VRel ρ (.ref k) u) :
Ok_slotsR (ρ := ρ) (h := h) k C as u := by
  obtain ⟨xs, os, h1, h2, a, d, sl, o, rfl, rfl, h3⟩ := O.rel.at e
  obtain ⟨b, bs, h7, rfl⟩ := hu
  rw [h1] at h7; (first | exact nope h7 | refine rt_elim h7 ?_ | cases h7)
  exact ⟨_, d, sl, o, rfl, h1, h2.1, h2.2.1, h3⟩
theorem getA_sound {x : Str} (hx : AttrOk P W.K x) (O : Ok W S ρ st s.heap) {a v : CV} {u : Value} (h : getA P a x st = some (v, st')) (ha : VRel ρ a u) {expr : Bool} : Does W S ρ s (getAttr u x expr) st' (fun ρ' r => VRel ρ' v r) := by
  unfold getA at h
  replace h := bnd_some h
  obtain ⟨⟨k, co⟩, st1, h1, h⟩ := h
  (replace h1 := look_some h1; obtain ⟨rfl, e2, rfl⟩ := h1)
  dsimp only at h e2
  induction co with
  | inst C as =>
    dsimp only at h
    cases qc : P.cls C with
    | none => rw [qc] at h; (first | exact nope h | refine rt_elim h ?_ | cases h)
    | some c =>
      rw [qc] at h
      dsimp only at h
      cases qs : c.slot with
      | true => rw [qs] at h; (first | exact nope h | refine rt_elim h ?_ | cases h)
      | false =>
        rw [qs] at h
        have PA := (hx C c qc).1 qs
        cases q : lkS as x with
        | none => simp only [q] at h; (first | exact nope h | refine rt_elim h ?_ | cases h)
        | some r =>
          have hl : ∀ z, r ≠ .lit z := fun z e => by subst e; simp only [q] at h; (first | exact nope h | refine rt_elim h ?_ | cases h)
          have h' : rt r st1 = some (v, st') := by
            simp only [q] at h
            cases r <;> first | exact h | (exact absurd rfl (hl _))
          (first | exact nope h' | cases h')
          obtain ⟨aa, d, res, ep, kvs, rfl, g0, g1, g2, g3, g4, g5, g6⟩ := O.inst e2 ha
          obtain ⟨w, w1, w2⟩ := look_some' (ep := ep) g4 g6 q
          refine Does.tok O fun Q E hQ => get_value O.inK (od := some { cls := .type "dict", data := .dict res ep }) ⟨g1, rfl, rfl, g2⟩ PA.ga (PA.find w1) (handed_of w2 hl) (hQ _ _ w2)
  | slots C as =>
    dsimp only at h
    cases qc : P.cls C with
    | none => rw [qc] at h; (first | exact nope h | refine rt_elim h ?_ | cases h)
    | some c =>
      rw [qc] at h
      dsimp only at h
      cases qs : c.slot with
      | false => rw [qs] at h; (first | exact nope h | refine rt_elim h ?_ | cases h)
      | true =>
        rw [qs, if_pos rfl] at h
        cases q : idxOf c.attrs x with
        | none => rw [q] at h; (first | exact nope h | refine rt_elim h ?_ | cases h)
        | some i =>
          rw [q] at h
          dsimp only at h
          have SA := (hx C c qc).2 qs i q
          cases qi : as[i]? with
          | none => rw [qi] at h; (first | exact nope h | refine rt_elim h ?_ | cases h)
          | some r =>
            rw [qi] at h
            induction r with
            | none => (first | exact nope h | refine rt_elim h ?_ | cases h)
            | some r =>
              have hl : ∀ z, r ≠ .lit z := fun z e => by subst e; (first | exact nope h | refine rt_elim h ?_ | cases h)
              have h' : rt r st1 = some (v, st') := by
                induction r with
                | lit z => exact absurd rfl (hl z)
                | _ => exact h
              (first | exact nope h' | cases h')
              obtain ⟨aa, d, sl, o, rfl, g0, g1, g2, g3⟩ := O.slots e2 ha
              obtain ⟨w, w1, w2⟩ := g3 i v qi
              obtain ⟨p, p0, p1, p2, p3, p4⟩ := SA.ex
              have I : InstAt s.heap aa { cls := .ref C, dict := some d, data := .plain, slots := sl } C (some o) := ⟨g1, rfl, rfl, g2⟩
              refine Does.tok O fun Q E hQ => get_bind O.inK I SA.ga (p1 _) SA.gk ?_
              refine wpAny_call (slot_get (s := { s with toks := s.toks + 1 }) O.inK I p2 w1 ?_)
              show wpAny _ _ (handedOut w) _ _ _
              rw [handedOut_of (handed_of w2 hl)]
              exact wpAny_pure (hQ _ _ w2)
  | _ => (first | exact nope h | refine rt_elim h ?_ | cases h)
theorem allNews_nodup (h : Heap) (L : Addr) : ((allNews h L).map (·.1)).Nodup := by
  unfold allNews
  generalize h.objs.size = n
  have key : ∀ l : List Nat, l.Nodup → ((l.filterMap fun a => if a = L then none else (h.get? a).map fun o => (a, o)).map (·.1)).Nodup ∧ ∀ x ∈ (l.filterMap fun a => if a = L then none else (h.get? a).map fun o => (a, o)).map (·.1), x ∈ l := by
    intro l
    induction l with
    | nil => intro _; exact ⟨List.nodup_nil, fun x hx => by simp at hx⟩
    | cons a r ih =>
      intro hn
      rw [List.nodup_cons] at hn
      obtain ⟨i1, i2⟩ := ih hn.2
      rw [List.filterMap_cons]
      by_cases q : a = L
      · rw [if_pos q]; exact ⟨i1, fun x hx => .tail _ (i2 x hx)⟩
      · rw [if_neg q]
        cases q2 : h.get? a with
        | none => exact ⟨i1, fun x hx => .tail _ (i2 x hx)⟩
        | some o =>
          simp only [Option.map_some, List.map_cons, List.nodup_cons]
          refine ⟨⟨fun hm => hn.1 (i2 a hm), i1⟩, fun x hx => ?_⟩
          rcases List.mem_cons.mp hx with rfl | hx
          · exact .head _
          · exact .tail _ (i2 x hx)
  exact (key _ List.nodup_range).1
inductive split_newsR (h : Heap) (L : Addr) (a : Addr) (o : Obj) : Prop
  | intro pre post (f1 : allNews h L = pre ++ (a, o) :: post) (f2 : (∀ p ∈ pre, p.1 ≠ a)) (f3 : ∀ p ∈ post, p.1 ≠ a)
theorem split_news {h : Heap} {L a : Addr} {o : Obj} (e : h.get? a = some o) (n : a ≠ L) : split_newsR h L a o := by
  obtain ⟨pre, post, q⟩ := List.append_of_mem (mem_allNews.mpr ⟨e, n⟩ : (a, o) ∈ allNews h L)
  have nd := allNews_nodup h L
  rw [q, List.map_append, List.map_cons, List.nodup_append, List.nodup_cons] at nd
  refine ⟨pre, post, q, fun p hp z => nd.2.2 p.1 (List.mem_map.mpr ⟨p, hp, rfl⟩) a (.head _) z, fun p hp z => nd.2.1.1 (List.mem_map.mpr ⟨p, hp, z⟩)⟩
theorem Ok.frUpd (O : Ok W S ρ st h) {k : Nat} {co : CO} {as : List Addr} (hk : ρ[k]? = some as) (hc : st.heap[k]? = some co) (hlo : st.lo ≤ k) {m : Str → Option Value} (hm : h.Ns S.env.locals m) (n : h'.Ns S.env.locals m)
    (kp : ∀ b o, b ≠ S.env.locals → b ∉ as → h.get? b = some o → h'.get? b = some o) {os' : List Obj} {co' : CO} (hh : Has (At h') as os') (hs : Shape W.prog W.w ρ as os' co') : Ok W S ρ { st with heap := st.heap.set k co' } h' := by
  have nd := O.rel.nd
  unfold own at nd
  rw [List.nodup_append] at nd
  have hin : ∀ a ∈ as, a ∈ (ρ.drop st.lo).flatten := fun a ha => mem_own_obj hk hlo ha
  have hL : ∀ a ∈ own S.env S.cs ρ st.lo, ∀ b, (∀ o, ¬ S.B b o) → True := fun _ _ _ _ => trivial
  have hcs : ∀ c ∈ S.cs, c ≠ S.env.locals ∧ c ∉ as := fun c hc => ⟨fun q => (List.nodup_cons.mp nd.1).1 (q ▸ hc), fun q => nd.2.2 _ (.tail _ hc) _ (hin _ q) rfl⟩
  have hB : ∀ b o, S.B b o → b ≠ S.env.locals ∧ b ∉ as := fun b o e => ⟨fun q => O.rel.off b (by rw [q]; exact .head _) o e, fun q => O.rel.off b (List.mem_append.mpr (.inr (hin b q))) o e⟩
  have hlt := (List.getElem?_eq_some_iff.mp hc).1
  refine ⟨O.base, O.blt, O.env, O.top, O.ctx, O.lo, O.dep, ?_, fun p hp => (O.frs p hp).to (fun o e => kp _ o (fun q => (O.frs p hp).2.1 (by rw [q]; exact .head _)) (fun q => (O.frs p hp).2.1 (List.mem_append.mpr (.inr (hin _ q)))) e) (O.frs p hp).2.1, O.trk⟩
  refine ⟨fun b o e => kp b o (hB b o e).1 (hB b o e).2 (O.rel.base b o e), by simp [O.rel.len], by simp [O.rel.lo], ?_, O.rel.nd, O.rel.off, ?_, ?_, O.rel.fre, ?_, O.rel.glob, O.rel.big⟩
  · intro i ci ai e1 e2
    dsimp only at e1 ⊢
    by_cases hik : i = k
    · subst hik
      rw [List.getElem?_set_self hlt] at e1
      (first | exact nope e1 | refine rt_elim e1 ?_ | cases e1)
      rw [hk] at e2; (first | exact nope e2 | refine rt_elim e2 ?_ | cases e2)
      refine ⟨os', ?_, hs⟩
      rw [if_neg (Nat.not_lt.mpr hlo)]; exact hh
    · rw [List.getElem?_set_ne (Ne.symm hik)] at e1
      obtain ⟨os, a1, a2⟩ := O.rel.obj i ci ai e1 e2
      refine ⟨os, ?_, a2⟩
      split
      · rename_i q; rw [if_pos q] at a1; exact a1
      · rename_i q
        rw [if_neg q] at a1
        have q' : st.lo ≤ i := Nat.le_of_not_lt q
        refine a1.mono fun a ha o e => kp a o (fun z => nd.2.2 _ (.head _) _ (mem_own_obj e2 q' ha) z.symm) ?_ e
        refine flat_apart (l := ρ.drop st.lo) (i := i - st.lo) (j := k - st.lo) nd.2.1 ?_ ?_ (by omega) a ha
        · rw [List.getElem?_drop, show st.lo + (i - st.lo) = i by omega]; exact e2
        · rw [List.getElem?_drop, show st.lo + (k - st.lo) = k by omega]; exact hk
  · obtain ⟨m', n', r⟩ := O.rel.ns
    have : m' = m := by
      obtain ⟨o1, es1, ep1, a1, a2, _, a4⟩ := n'
      obtain ⟨o2, es2, ep2, b1, b2, _, b4⟩ := hm
      rw [a1] at b1; (first | exact nope b1 | refine rt_elim b1 ?_ | cases b1)
      rw [a2] at b2; (first | exact nope b2 | refine rt_elim b2 ?_ | cases b2)
      funext y; rw [← a4, ← b4]
    subst this
    exact ⟨m', n, r⟩
  · intro i x e
    obtain ⟨c, u, a1, a2, ⟨o, ho, hd⟩, a4⟩ := O.rel.cel i x e
    exact ⟨c, u, a1, a2, ⟨o, kp _ _ (hcs c a2).1 (hcs c a2).2 ho, hd⟩, a4⟩
  · intro c hc
    obtain ⟨u, o, ho, hd⟩ := O.rel.cin c hc
    exact ⟨u, o, kp _ _ (hcs c hc).1 (hcs c hc).2 ho, hd⟩
theorem setA_sound {x : Str} (hx : AttrOk P W.K x) (O : Ok W S ρ st s.heap) {a v : CV} {u u' : Value} {y : Unit} (h : setA P a x v st = some (y, st')) (ha : VRel ρ a u) (hv : VRel ρ v u') : Does W S ρ s (setAttr u x u') st' (fun _ _ => True) := by
  unfold setA at h
  replace h := bnd_some h
  obtain ⟨⟨k, co⟩, st1, h1, h⟩ := h
  (replace h1 := look_some h1; obtain ⟨rfl, e2, rfl⟩ := h1)
  dsimp only at h e2
  induction co with
  | inst C as =>
    dsimp only at h
    cases qc : P.cls C with
    | none => rw [qc] at h; (first | exact nope h | refine rt_elim h ?_ | cases h)
    | some c =>
      rw [qc] at h
      dsimp only at h
      (first | (replace h := if_inv h; obtain ⟨q, h⟩ := h) | (replace h := if_inv2 h; obtain ⟨q, h⟩ := h) | (split at h; rotate_left; (focus cases h); rename_i q))
      · rw [Bool.and_eq_true, decide_eq_true_eq] at q
        have PA := (hx C c qc).1 (by simpa using q.2)
        (replace h := put_some h; obtain ⟨hlo, rfl⟩ := h)
        obtain ⟨aa, d, res, ep, kvs, rfl, g0, g1, g2, g3, g4, g5, g6⟩ := O.inst e2 ha
        have I : InstAt s.heap aa (instObj C d) C (some (dictOf res.toList ep)) := ⟨g1, rfl, rfl, by simpa using g2⟩
        obtain ⟨m, F, _⟩ := O.fr
        have nd := O.rel.nd
        unfold own at nd
        rw [List.nodup_append] at nd
        have hdL : d ≠ S.env.locals := fun q => nd.2.2 _ (.head _) _ (mem_own_obj g0 hlo (.tail _ (.head _))) q.symm
        have had : aa ≠ d := by
          have : [aa, d].Nodup := by
            refine List.Nodup.sublist ?_ nd.2.1
            have hm : ρ[k]? = some [aa, d] := g0
            obtain ⟨hk1, hk2⟩ := List.getElem?_eq_some_iff.mp hm
            have : ρ[k] ∈ ρ.drop st1.lo := List.mem_iff_getElem?.mpr ⟨k - st1.lo, by rw [List.getElem?_drop, show st1.lo + (k - st1.lo) = k by omega]; exact List.getElem?_eq_getElem hk1⟩
            rw [← hk2]
            exact List.sublist_flatten_of_mem this
          intro q
          rw [q] at this
          simp at this
        have g2' : s.heap.get? d = some (dictOf res.toList ep) := by simpa using g2
        obtain ⟨pre, post, q1, q2, q3⟩ := split_news (L := S.env.locals) g2' hdL
        have N := O.news
        rw [q1] at N
        have hl : (lookIn x (dictOf res.toList ep)).isSome = true := by
          have e0 : (dictOf res.toList ep) = { cls := .type "dict", data := .dict res ep } := by simp
          rw [e0]
          cases q : lkS as x with
          | none => rw [look_none' g4 g6 q]; rfl
          | some c => obtain ⟨w, w1, _⟩ := look_some' (ep := ep) g4 g6 q; rw [w1]; rfl
        have hlen : res.toList.length ≤ 100 := by rw [g4.length, ← g6.length]; exact q.1
        intro Q E hQ
        refine set_plain O.inK I PA.set (osa_dict (s := { s with toks := s.toks + 1 }) F N O.inK I rfl PA.over (by unfold takerIn; rw [PA.no]; rfl) PA.has hl q2 q3 (putName_dict _ _ _ _ _ _) rfl (Nat.le_trans (putL_len (x := x) (v := u') (t := s.toks + 1) (hsh := PyData.keyHash W.w.params x) (es := res.toList)) (by omega)) fun h' F' N' => ?_)
        refine hQ _ ρ _ (Ext.refl _) (O.frUpd (h' := h') g0 e2 hlo F.ns F'.ns (fun b o hb hn e => ?_) (os' := [_, _]) ⟨?_, (N' (d, _) (List.mem_append.mpr (.inr (.head _)))).1, trivial⟩ ⟨aa, d, _, _, _, stored kvs x u', rfl, rfl, rfl, ?_, ?_, ?_, ?_⟩) trivial Same.rfl
        · have hm : (b, o) ∈ pre ++ (d, dictOf res.toList ep) :: post := q1 ▸ mem_allNews.mpr ⟨e, hb⟩
          refine (N' (b, o) ?_).1
          rcases List.mem_append.mp hm with z | z
          · exact List.mem_append.mpr (.inl z)
          · rcases List.mem_cons.mp z with z | z
            · (first | exact nope z | refine rt_elim z ?_ | cases z); exact absurd (.tail _ (.head _)) hn
            · exact List.mem_append.mpr (.inr (.tail _ z))
        · have hm : (aa, instObj C d) ∈ pre ++ (d, dictOf res.toList ep) :: post := q1 ▸ mem_allNews.mpr ⟨g1, fun q => nd.2.2 _ (.head _) _ (mem_own_obj g0 hlo (.head _)) q.symm⟩
          refine (N' (aa, instObj C d) ?_).1
          rcases List.mem_append.mp hm with z | z
          · exact List.mem_append.mpr (.inl z)
          · rcases List.mem_cons.mp z with z | z
            · (first | exact nope z | refine rt_elim z ?_ | cases z)
            · exact List.mem_append.mpr (.inr (.tail _ z))
        · intro e he
          exact putL_keys (fun e he => g3 e (Array.mem_toList_iff.mp he)) e (by simpa using he)
        · rw [List.toList_toArray]
          exact putL_rel g5 g4
        · exact stored_nodup g5
        · rw [putS_eq]; exact g6.put _ hv g5
  | slots C as =>
    dsimp only at h
    cases qc : P.cls C with
    | none => rw [qc] at h; (first | exact nope h | refine rt_elim h ?_ | cases h)
    | some c =>
      rw [qc] at h
      dsimp only at h
      cases qs : c.slot with
      | false => rw [qs] at h; (first | exact nope h | refine rt_elim h ?_ | cases h)
      | true =>
        rw [qs, if_pos rfl] at h
        cases q : idxOf c.attrs x with
        | none => rw [q] at h; (first | exact nope h | refine rt_elim h ?_ | cases h)
        | some i =>
          have SA := (hx C c qc).2 qs i q
          rw [q] at h
          dsimp only at h
          (first | (replace h := if_inv h; obtain ⟨hi, h⟩ := h) | (replace h := if_inv2 h; obtain ⟨hi, h⟩ := h) | (split at h; rotate_left; (focus cases h); rename_i hi))
          · (replace h := put_some h; obtain ⟨hlo, rfl⟩ := h)
            obtain ⟨aa, d, sl, o, rfl, g0, g1, g2, g3⟩ := O.slots e2 ha
            obtain ⟨p, p0, p1, p2, p3, p4⟩ := SA.ex
            have I : InstAt s.heap aa { cls := .ref C, dict := some d, data := .plain, slots := sl } C (some o) := ⟨g1, rfl, rfl, g2⟩
            obtain ⟨m, F, _⟩ := O.fr
            have nd := O.rel.nd
            unfold own at nd
            rw [List.nodup_append] at nd
            have haL : aa ≠ S.env.locals := fun q => nd.2.2 _ (.head _) _ (mem_own_obj g0 hlo (.head _)) q.symm
            have hdL : d ≠ S.env.locals := fun q => nd.2.2 _ (.head _) _ (mem_own_obj g0 hlo (.tail _ (.head _))) q.symm
            have had : aa ≠ d := by
              have : [aa, d].Nodup := by
                refine List.Nodup.sublist ?_ nd.2.1
                have hm : ρ[k]? = some [aa, d] := g0
                obtain ⟨hk1, hk2⟩ := List.getElem?_eq_some_iff.mp hm
                have : ρ[k] ∈ ρ.drop st1.lo := List.mem_iff_getElem?.mpr ⟨k - st1.lo, by rw [List.getElem?_drop, show st1.lo + (k - st1.lo) = k by omega]; exact List.getElem?_eq_getElem hk1⟩
                rw [← hk2]
                exact List.sublist_flatten_of_mem this
              intro q
              rw [q] at this
              simp at this
            obtain ⟨pre, post, q1, q2, q3⟩ := split_news (L := S.env.locals) g1 haL
            have N := O.news
            rw [q1] at N
            intro Q E hQ
            refine set_plain O.inK I SA.set (osa_descr (s := { s with toks := s.toks + 1 }) KF.slot_mset O.inK I SA.over p3 p4 (slot_set (s := { s with toks := s.toks + 1 }) F N O.inK I p2 SA.lt q2 q3 rfl rfl fun h' F' N' => ?_))
            refine hQ _ ρ _ (Ext.refl _) (O.frUpd (h' := h') g0 e2 hlo F.ns F'.ns (fun b o' hb hn e => ?_) (os' := [_, o]) ⟨(N' (aa, _) (List.mem_append.mpr (.inr (.head _)))).1, ?_, trivial⟩ ⟨aa, d, _, o, rfl, rfl, ?_⟩) trivial Same.rfl
            · have hm : (b, o') ∈ pre ++ (aa, _) :: post := q1 ▸ mem_allNews.mpr ⟨e, hb⟩
              refine (N' (b, o') ?_).1
              rcases List.mem_append.mp hm with z | z
              · exact List.mem_append.mpr (.inl z)
              · rcases List.mem_cons.mp z with z | z
                · (first | exact nope z | refine rt_elim z ?_ | cases z); exact absurd (.head _) hn
                · exact List.mem_append.mpr (.inr (.tail _ z))
            · have hm : (d, o) ∈ pre ++ (aa, _) :: post := q1 ▸ mem_allNews.mpr ⟨g2, hdL⟩
              refine (N' (d, o) ?_).1
              rcases List.mem_append.mp hm with z | z
              · exact List.mem_append.mpr (.inl z)
              · rcases List.mem_cons.mp z with z | z
                · (first | exact nope z | refine rt_elim z ?_ | cases z); exact absurd rfl had
                · exact List.mem_append.mpr (.inr (.tail _ z))
            · intro j cj ej
              by_cases hj : j = i
              · subst hj
                rw [List.getElem?_set_self hi] at ej
                (first | exact nope ej | refine rt_elim ej ?_ | cases ej)
                refine ⟨u', ?_, hv⟩
                rw [Array.getElem?_setIfInBounds_self_of_lt]
                · rfl
                · simp only [Array.size_append, Array.size_replicate]; omega
              · rw [List.getElem?_set_ne (Ne.symm hj)] at ej
                obtain ⟨w, w1, w2⟩ := g3 j cj ej
                refine ⟨w, ?_, w2⟩
                rw [Array.getElem?_setIfInBounds_ne (Ne.symm hj)]
                cases qj : sl[j]? with
                | none => rw [qj] at w1; (first | exact nope w1 | refine rt_elim w1 ?_ | cases w1)
                | some z =>
                  have hlt := (Array.getElem?_eq_some_iff.mp qj).1
                  rw [Array.getElem?_append_left hlt, qj]
                  rw [qj] at w1; exact w1
  | _ => (first | exact nope h | refine rt_elim h ?_ | cases h)
end
section
variable {T : Tx}
theorem SE.attr {a : CE} {e : Expr} {x : Str} {pos : Pos} (hx : AttrOk T.P T.W.K x) (ha : SE T a e) (hbase : ∀ env whole, attributeBase e x env whole = whole := by intro _ _; rfl) (ht : TempOk e := by first | exact temp_name | exact temp_sub | exact temp_call | exact temp_attr) : SE T (.attr a x) (.Attribute e x pos) := fun n C S ρ st st' s v I O h => by
  replace h := run_e h
  obtain ⟨m, rfl, h⟩ := h
  unfold stepE at h
  replace h := bnd_some h
  obtain ⟨y, st1, h1, h⟩ := h
  intro Q E hQ
  rw [arm_eval_Attribute, hbase]
  refine wpAny_bind (ha m C.down I O h1 _ _ fun u ρ1 s1 e1 O1 p1 m1 => wpAny_bind (wpAny_standAt (wpAny_bind (wpAny_holding ?_))))
  exact getA_sound hx O1 h p1 _ _ fun u2 ρ2 s2 e2 O2 p2 m2 => wpAny_bind (ht (wpAny_pure (hQ _ _ _ (e1.trans e2) O2 p2 (m1.trans m2))))
theorem SA.attr {o : CE} {a : Expr} {x : Str} {pos : Pos} (hx : AttrOk T.P T.W.K x) (ho : SE T o a) : SA T (.attr o x) (.Attribute a x pos) := fun n C S ρ st st' s v u y I O h hv Q E hQ => by
  unfold asgT at h
  replace h := bnd_some h
  obtain ⟨z, st1, h1, h⟩ := h
  rw [arm_assign_Attribute]
  refine wpAny_bind (wpAny_holding (ho n C I O h1 _ _ fun u1 ρ1 s1 e1 O1 p1 m1 => wpAny_bind (wpAny_standAt (wpAny_bind (wpAny_holding ?_)))))
  exact setA_sound hx O1 h p1 (hv.mono e1) _ _ fun _ ρ3 s3 e3 O3 _ m3 => wpAny_release (hQ _ _ _ (e1.trans e3) O3 trivial (m1.trans m3))
theorem SS.augattr {o : CE} {x : Str} {op : Operator} {a : CE} {oe e : Expr} {tpos pos : Pos} (hx : AttrOk T.P T.W.K x) (ho : SE T o oe) (ha : SE T a e) : SS T (.augattr o x op a) (.AugAssign (.Attribute oe x tpos) op e pos) := fun n C S ρ st st' s f I O h => by
  replace h := run_s h
  obtain ⟨m, rfl, h⟩ := h
  unfold stepS at h
  replace h := bnd_some h
  obtain ⟨v, st1, h1, h⟩ := h
  replace h := bnd_some h
  obtain ⟨v2, st2, h2, h⟩ := h
  replace h := bnd_some h
  obtain ⟨v3, st3, h3, h⟩ := h
  replace h := bnd_some h
  obtain ⟨v4, st4, h4, h⟩ := h
  replace h := bnd_some h
  obtain ⟨v5, st5, h5, h⟩ := h
  (first | exact nope h | refine rt_elim h ?_ | cases h)
  intro Q E hQ
  refine wpAny_AugAssign_AttributeAny (ho m C.down I O h1 _ _ fun u1 ρ1 s1 e1 O1 p1 m1 => getA_sound hx O1 h2 p1 _ _ fun u2 ρ2 s2 e2 O2 p2 m2 => ha m C.down I O2 h3 _ _ fun u3 ρ3 s3 e3 O3 p3 m3 => ?_)
  refine aug_sound O3 h4 (p2.mono e3) p3 _ _ fun u4 ρ4 s4 e4 O4 p4 m4 => ?_
  exact setA_sound hx O4 h5 (p1.mono ((e2.trans e3).trans e4)) p4 _ _ fun _ ρ5 s5 e5 O5 _ m5 => hQ _ _ _ ((((e1.trans e2).trans e3).trans e4).trans e5) O5 rfl ((((m1.trans m2).trans m3).trans m4).trans m5)
end
end Mine
end

section
set_option genSizeOf false
set_option genInjectivity false
namespace Mine
section
variable {W : Wd} {P : Prog} {S : Sit} {ρ : Rho} {st st' : St} {s : Shared} {h h' : Heap}
noncomputable def Sit.under (S : Sit) (c : Code) : Sit := { S with A := S.A.under c, dep := S.dep - 1 }
theorem Ok.under (O : Ok W S ρ st h) (c : Code) (hd : st.dep ≠ 0) (hw : c.weight ≤ 1) (hu : c.cUnits ≤ 10) (he : c.envs = []) : Ok W (S.under c) ρ { st with dep := st.dep - 1 } h := by
  have hd' : S.dep ≠ 0 := by rw [← O.dep]; exact hd
  refine ⟨O.base, O.blt, O.env, O.top, ⟨fun _ => O.ctx.handled hd', ?_, ?_⟩, O.lo, by show st.dep - 1 = S.dep - 1; rw [O.dep], ⟨O.rel.base, O.rel.len, O.rel.lo, O.rel.obj, O.rel.nd, O.rel.off, O.rel.ns, O.rel.cel, O.rel.fre, O.rel.cin, O.rel.glob, O.rel.big⟩, O.frs, fun q => ?_⟩
  · exact dep_sub O.ctx.depth hd' hw
  · exact units_sub O.ctx.units hd' hu
  · obtain ⟨outer, f1, f2, f3⟩ := O.trk (Nat.lt_of_lt_of_le q (Nat.sub_le _ _))
    exact ⟨outer, by show pushEnvs c.envs S.A.frames = _; rw [he]; exact f1, f2, f3⟩
theorem Ok.over {ρ' : Rho} {st' : St} {c : Code} (O2 : Ok W (S.under c) ρ' st' h') (O : Ok W S ρ st h) : Ok W S ρ' { st' with dep := st.dep } h' :=
  ⟨O2.base, O2.blt, O2.env, O2.top, O.ctx, O2.lo, O.dep, ⟨O2.rel.base, O2.rel.len, O2.rel.lo, O2.rel.obj, O2.rel.nd, O2.rel.off, O2.rel.ns, O2.rel.cel, O2.rel.fre, O2.rel.cin, O2.rel.glob, O2.rel.big⟩, O2.frs, O.trk⟩
structure NewOk (K : Frag) (C : Addr) (c : Cls) : Prop where
  makes : makesIn K C = true
  init : findIn K (.ref C) "__init__" = some (some (.ref c.init))
  fn : typeIn K (.ref c.init) = some (.type "function")
  keep : keepIn K (.ref C) = true
theorem tc_weight (C : Addr) (us : List Value) : (Code.builtin "type.__call__" ⟨.ref C :: us, []⟩).weight ≤ 1 := by
  have : (Code.builtin "type.__call__" ⟨.ref C :: us, []⟩).weight = 1 := by first | rfl | kernel_rfl
  rw [this]; exact Nat.le_refl _
theorem tc_units (a : Args) : (Code.builtin "type.__call__" a).cUnits ≤ 10 := by
  show (Code.builtin "type.__call__" {}).cUnits ≤ 10
  decide +kernel
theorem new_sound {C : Addr} {c : Cls} (hc : P.cls C = some c) (N : NewOk W.K C c) {m : Nat} (Cm : CallAt P W m) {vs : List CV} {us : List Value} {v : CV} (O : Ok W S ρ st s.heap)
    (h : (bnd (alloc (if c.slot then .slots C (c.attrs.map fun _ => none) else .inst C [])) fun v => fun st => if st.dep = 0 then none else match (run P m).c c.init (v :: vs) { st with dep := st.dep - 1 } with
      | some (.none, st') => some (v, { st' with dep := st.dep })
      | _ => none) st = some (v, st')) (hv : VRels ρ vs us) : Does W S ρ s (call (.ref C) us) st' (fun ρ' r => VRel ρ' v r) := by
  generalize hco : (if c.slot then CO.slots C (c.attrs.map fun _ => none) else CO.inst C []) = co at h
  replace h := bnd_some h
  obtain ⟨x, st1, h1, h⟩ := h
  (replace h1 := alloc_some h1; obtain ⟨rfl, rfl⟩ := h1)
  by_cases hd : st.dep = 0
  · rw [if_pos hd] at h; (first | exact nope h | cases h)
  · rw [if_neg hd] at h
    intro Q E hQ
    obtain ⟨hp, g, d, tk, os⟩ := s
    refine wpAny_call (make_core (makes_of O.inK N.makes) (looks_findIn O.inK N.init) (fun self => bind_fn O.inK self N.fn) (.inl rfl) ?_)
    have O1 : Ok W S (ρ ++ [[hp.objs.size + 1, hp.objs.size]]) { st with heap := st.heap ++ [co] } ((hp.push emptyDict).push (instObj C hp.objs.size)) := by
      refine O.alloc (os := [instObj C hp.objs.size, emptyDict]) (fun b o e => Heap.get?_push_of_some _ (Heap.get?_push_of_some _ e)) (fun a ha => ?_) ?_ ⟨?_, ?_, trivial⟩ ?_
      · have : hp.objs.size ≤ a := by
          rcases List.mem_cons.mp ha with rfl | ha
          · exact Nat.le_succ _
          · rw [List.mem_singleton.mp ha]; exact Nat.le_refl _
        exact ⟨get_big this, this⟩
      · simp
      · have := Heap.get?_push_size (o := instObj C hp.objs.size) (hp.push emptyDict) rfl
        rw [Heap.size_push] at this
        exact this
      · exact Heap.get?_push_of_some _ (Heap.get?_push_size _ rfl)
      · rw [← hco]
        cases c.slot with
        | true => exact ⟨_, _, #[], _, rfl, rfl, fun i cv e => by
            exfalso
            have e : (c.attrs.map fun _ => (none : Option CV))[i]? = some (some cv) := e
            rw [List.getElem?_map] at e
            cases q : c.attrs[i]? with
            | none => rw [q] at e; (first | exact nope e | cases e)
            | some z => rw [q] at e; cases e⟩
        | false => exact ⟨_, _, _, #[], 0, [], rfl, rfl, rfl, fun e he => by simp at he, .nil, .nil, trivial⟩
    have hnew : VRel (ρ ++ [[hp.objs.size + 1, hp.objs.size]]) (.ref st.heap.length) (.ref (hp.objs.size + 1)) := ⟨_, _, by rw [← O.rel.len, List.getElem?_append_right (Nat.le_refl _), Nat.sub_self]; rfl, rfl⟩
    cases q : (run P m).c c.init (.ref st.heap.length :: vs) { st with heap := st.heap ++ [co], dep := st.dep - 1 } with
    | none => simp only [q] at h; (first | exact nope h | cases h)
    | some p =>
      obtain ⟨r, st2⟩ := p
      have O2 := O1.under (.builtin "type.__call__" ⟨.ref C :: us, []⟩) hd (tc_weight _ _) (tc_units _) rfl
      induction r with
      | none =>
        simp only [q] at h
        (first | exact nope h | cases h)
        refine codeAny_mono (Cm (s := ⟨(hp.push emptyDict).push (instObj C hp.objs.size), g, d, tk, os⟩) O2 q (us := .ref (hp.objs.size + 1) :: us) ⟨hnew, hv.mono ⟨_, rfl⟩⟩ (fun v s' => v = .none ∧ Q (.ref (hp.objs.size + 1)) s') E fun u ρ3 s3 e3 O3 p3 m3 _ => ⟨p3, ?_⟩) fun r s' z => ?_
        · exact hQ _ _ _ (Ext.trans ⟨[[hp.objs.size + 1, hp.objs.size]], rfl⟩ e3) (O3.over O) (hnew.mono e3) ⟨m3.gens, m3.drawn, m3.os⟩
        · rcases r with e | (v | _ | _ | _) <;> exact z
      | _ => simp only [q] at h; (first | exact nope h | cases h)
end
section
variable {T : Tx}
theorem SE.new {x : Str} {C : Addr} {c : Cls} {cs : List CE} {es : List Expr} {np pos : Pos} (hc : T.P.cls C = some c) (N : NewOk T.W.K C c) (hx : T.sc.names.lookup x = some .globalImplicit) (hg : nsIn T.W.K mainGlobals x = some (some (.ref C))) (ha : SEs T cs es)
    (hd : (x == ("__debug__" : Str)) = false := by decide) : SE T (.new C cs) (.Call (.Name x np) es [] pos) := fun n Cn S ρ st st' s v I O h => by
  replace h := run_e h
  obtain ⟨m, rfl, h⟩ := h
  unfold stepE at h
  simp only [hc] at h
  replace h := bnd_some h
  obtain ⟨vs, st1, h1, h⟩ := h
  intro Q E hQ
  have hn := SE.glob (T := T) (pos := np) (v := .lit (.ref C)) hx hg (show TopVal T.W (.lit (.ref C)) (.ref C) from rfl) hd
  have hm0 : (run T.P (m + 1)).e (.glob (.lit (.ref C))) st = some (.lit (.ref C), st) := rfl
  refine wpAny_Call_ofName (hn (m + 1) Cn I O hm0 _ _ fun g ρ0 s0 e0 O0 p0 m0 => ?_)
  have p0 : g = .ref C := p0
  subst p0
  refine callW (Kp.known N.keep) ha Cn.down I O0 h1 fun us ρ1 s1 e1 O1 p1 m1 => ?_
  exact new_sound hc N (Cn m (Nat.lt_succ_self _)) O1 h p1 _ _ fun u2 ρ2 s2 e2 O2 p2 m2 => hQ _ _ _ ((e0.trans e1).trans e2) O2 p2 ((m0.trans m1).trans m2)
end
end Mine
end

section
set_option genSizeOf false
set_option genInjectivity false
namespace Mine
structure MethAt (K : Frag) (C : Addr) (x : Str) (f : Addr) : Prop where
  ga : findIn K (.ref C) "__getattribute__" = some (some (.builtin "object.__getattribute__"))
  gk : findIn K (.ref C) "__getattr__" = some none
  find : findIn K (.ref C) x = some (some (.ref f))
  typ : typeIn K (.ref f) = some (.type "function")
  keep : keepIn K (.ref f) = true
  has : hasDictIn K C = true
  get : specialIn K (.ref f) "__get__" = some (some (.builtin "function.__get__"))
  takes : takesIn K (.ref f) = some false
  name : copiedNames.contains x = false
  func : ∃ o fd, K.lookup f = some o ∧ o.data = .func fd
noncomputable def MethsOk (P : Prog) (K : Frag) (x : Str) : Prop := ∀ C c f, P.cls C = some c → c.meths.lookup x = some f → MethAt K C x f
section
variable {T : Tx}
inductive isSelf_someR (x : Str) (co : CO) (P : Prog) (c : Cls) : Prop
  | intro C as (f1 : co = .inst C as) (f2 : lkS as x = none) (f3 : P.cls C = some c)
theorem isSelf_some {x : Str} {co : CO} {P : Prog} {c : Cls} (h : (isSelf x co).bind P.cls = some c) : isSelf_someR x co P c := by
  induction co with
  | inst C as =>
    unfold isSelf at h
    dsimp only at h
    cases q : lkS as x with
    | some z => rw [q] at h; (first | exact nope h | refine rt_elim h ?_ | cases h)
    | none => rw [q] at h; exact ⟨C, as, rfl, q, h⟩
  | _ => (first | exact nope h | refine rt_elim h ?_ | cases h)
theorem SE.callm {o : CE} {x : Str} {pure : Bool} {cs : List CE} {e : Expr} {es : List Expr} {apos pos : Pos} (hx : MethsOk T.P T.W.K x) (ho : SE T o e) (ha : SEs T cs es)
    (hbase : ∀ env whole, attributeBase e x env whole = whole := by intro _ _; rfl) (hline : (apos.endLine == pos.line) = true := by rfl) (hlen : decide (es.length < 30) = true := by rfl) : SE T (.callm o x pure cs none) (.Call (.Attribute e x apos) es [] pos) := fun n Cn S ρ st st' s v I O h => by
  replace h := run_e h
  obtain ⟨m, rfl, h⟩ := h
  unfold stepE at h
  replace h := bnd_some h
  obtain ⟨u0, st1, h1, h⟩ := h
  replace h := bnd_some h
  obtain ⟨⟨k, co⟩, st2, h2, h⟩ := h
  (replace h2 := look_some h2; obtain ⟨rfl, e2, rfl⟩ := h2)
  dsimp only at h e2
  cases qc : (isSelf x co).bind T.P.cls with
  | none => rw [qc] at h; (first | exact nope h | refine rt_elim h ?_ | cases h)
  | some c =>
    rw [qc] at h
    dsimp only at h
    cases qf : c.meths.lookup x with
    | none => rw [qf] at h; (first | exact nope h | refine rt_elim h ?_ | cases h)
    | some f =>
      rw [qf] at h
      dsimp only at h
      obtain ⟨C, as, rfl, hl, hcl⟩ := isSelf_some qc
      have M := hx C c f hcl qf
      replace h := bnd_some h
      obtain ⟨vs, st3, h3, h⟩ := h
      replace h := bnd_some h
      obtain ⟨ws, st4, h4, h⟩ := h
      cases h4
      rw [List.append_nil] at h
      intro Q E hQ
      rw [arm_eval_Call, hbase]
      refine wpAny_bind (ho m Cn.down I O h1 _ _ fun u ρ1 s1 e1 O1 p1 m1 => wpAny_bind (wpAny_standAt ?_))
      obtain ⟨aa, d, res, ep, kvs, rfl, g0, g1, g2, g3, g4, g5, g6⟩ := O1.inst e2 p1
      have II : InstAt s1.heap aa (instObj C d) C (some { cls := .type "dict", data := .dict res ep }) := ⟨g1, rfl, rfl, g2⟩
      have hform : methodCallForm (es.length + ([] : List Keyword).length) (backTo pos (starEach es S.env)) (backToKw pos (keywordEach [] S.env)) = true := by
        show ((backTo pos (starEach es S.env)).all (fun x => !x.1) && true && decide (es.length < 30)) = true
        rw [all_plain ha, hlen]; rfl
      have hpos : methodCallPos true e S.env apos pos = Pure.pure pos := by unfold methodCallPos; rw [hline]; rfl
      unfold methodCall
      rw [hform]
      refine wpAny_bind (wpAny_holding ?_)
      show wpAny _ _ (getMethod _ _ _) _ _ _
      refine method_fn O1.inK II M.ga M.gk M.find M.typ (by show (lookIn x { cls := .type "dict", data := .dict res ep }).map (·.isSome) = some false; rw [look_none' g4 g6 hl]; rfl) ?_
      refine wpAny_bind (wpAny_of_eq hpos ?_)
      refine callW (first := [.ref aa]) (Kp.known M.keep) ha Cn.down I O1 h3 fun us ρ2 s2 e3 O2 p2 m2 => ?_
      have fin : Then T.W S ρ2 s2 st' (fun ρ' r => VRel ρ' v r) Q := fun u2 ρ3 s3 e4 O3 p3 m3 => hQ _ _ _ ((e1.trans e3).trans e4) O3 p3 ((m1.trans m2).trans m3)
      have hv : VRels ρ2 (.ref k :: vs) (.ref aa :: us) := ⟨p1.mono e3, p2⟩
      split at h
      · exact frozen_sound (Cn m (Nat.lt_succ_self _)) O2 h hv _ _ fin
      · exact wpAny_call (Cn m (Nat.lt_succ_self _) O2 h hv _ _ fin.toF)
theorem run_c_len {P : Prog} {n : Nat} {f : Addr} {args : List CV} {st : St} {r : CV × St} (h : (run P n).c f args st = some r) : args.length ≤ 1000 := by
  cases n with
  | zero => (first | exact nope h | refine rt_elim h ?_ | cases h)
  | succ m =>
    have h : stepC P (run P m) f args st = some r := h
    unfold stepC at h
    cases q : P.fn f with
    | none => rw [q] at h; (first | exact nope h | refine rt_elim h ?_ | cases h)
    | some fn =>
      rw [q] at h
      dsimp only at h
      (first | (replace h := if_inv h; obtain ⟨hc, h⟩ := h) | (replace h := if_inv2 h; obtain ⟨hc, h⟩ := h) | (split at h; rotate_left; (focus cases h); rename_i hc))
      · exact hc.2.2.2.2
theorem star_look {co : CO} {xs : List CV} {st : St} {ws : List CV} {st' : St} (h : (match co with
    | .list xs => rt xs
    | .tuple xs => rt xs
    | _ => no : M (List CV)) st = some (ws, st')) : (co = .list ws ∨ co = .tuple ws) ∧ st' = st := by
  induction co with
  | list xs => (first | exact nope h | refine rt_elim h ?_ | cases h); exact ⟨.inl rfl, rfl⟩
  | tuple xs => (first | exact nope h | refine rt_elim h ?_ | cases h); exact ⟨.inr rfl, rfl⟩
  | _ => (first | exact nope h | refine rt_elim h ?_ | cases h)
theorem SE.calls {o : CE} {x : Str} {a b : CE} {e ea eb : Expr} {apos pos sp : Pos} (hx : MethsOk T.P T.W.K x) (ho : SE T o e) (ha : SE T a ea) (hb : SE T b eb)
    (hbase : ∀ env whole, attributeBase e x env whole = whole := by intro _ _; rfl) (hea : ∀ env, starEach (ea :: [.Starred eb sp]) env = (false, eval ea env) :: starEach [.Starred eb sp] env := by intro _; rfl) : SE T (.callm o x false [a] (some b)) (.Call (.Attribute e x apos) [ea, .Starred eb sp] [] pos) := fun n Cn S ρ st st' s v I O h => by
  replace h := run_e h
  obtain ⟨m, rfl, h⟩ := h
  unfold stepE at h
  replace h := bnd_some h
  obtain ⟨u0, st1, h1, h⟩ := h
  replace h := bnd_some h
  obtain ⟨⟨k, co⟩, st2, h2, h⟩ := h
  (replace h2 := look_some h2; obtain ⟨rfl, e2, rfl⟩ := h2)
  dsimp only at h e2
  cases qc : (isSelf x co).bind T.P.cls with
  | none => rw [qc] at h; (first | exact nope h | refine rt_elim h ?_ | cases h)
  | some c =>
    rw [qc] at h
    dsimp only at h
    cases qf : c.meths.lookup x with
    | none => rw [qf] at h; (first | exact nope h | refine rt_elim h ?_ | cases h)
    | some f =>
      rw [qf] at h
      dsimp only at h
      obtain ⟨C, as, rfl, hl, hcl⟩ := isSelf_some qc
      have M := hx C c f hcl qf
      replace h := bnd_some h
      obtain ⟨vs, st3, h3, h⟩ := h
      unfold evs at h3
      replace h3 := bnd_some h3
      obtain ⟨va, st3', h3, h3'⟩ := h3
      cases h3'
      replace h := bnd_some h
      obtain ⟨ws, st4, h4, h⟩ := h
      unfold starOf at h4
      replace h4 := bnd_some h4
      obtain ⟨vb, st5, h5, h4⟩ := h4
      replace h4 := bnd_some h4
      obtain ⟨⟨kb, cb⟩, st6, h6, h4⟩ := h4
      (replace h6 := look_some h6; obtain ⟨rfl, e6, rfl⟩ := h6)
      dsimp only at h4 e6
      obtain ⟨hcb, rfl⟩ := star_look (xs := []) h4
      rw [if_neg Bool.false_ne_true] at h
      intro Q E hQ
      rw [arm_eval_Call, hbase]
      refine wpAny_bind (ho m Cn.down I O h1 _ _ fun u ρ1 s1 e1 O1 p1 m1 => wpAny_bind (wpAny_standAt ?_))
      obtain ⟨aa, d, res, ep, kvs, rfl, g0, g1, g2, g3, g4, g5, g6⟩ := O1.inst e2 p1
      have II : InstAt s1.heap aa (instObj C d) C (some { cls := .type "dict", data := .dict res ep }) := ⟨g1, rfl, rfl, g2⟩
      have hform : methodCallForm ([ea, .Starred eb sp].length + ([] : List Keyword).length) (backTo pos (starEach [ea, .Starred eb sp] S.env)) (backToKw pos (keywordEach [] S.env)) = false := by
        unfold methodCallForm
        rw [hea]
        rfl
      unfold methodCall
      rw [hform]
      refine wpAny_bind (wpAny_holding ?_)
      show wpAny _ _ (getAttr _ _ _ >>= fun r => Pure.pure (r, [])) _ _ _
      refine wpAny_bind (get_bind O1.inK II M.ga (findObj_fn M.has M.find M.get M.takes M.name (look_none' g4 g6 hl)) M.gk ?_)
      refine wpAny_call (fn_get (s := { s1 with toks := s1.toks + 1 }) O1.inK M.typ ?_)
      show wpAny _ _ (handedOut (.ref s1.heap.objs.size)) _ _ _
      rw [handedOut_of rfl]
      refine wpAny_pure (wpAny_pure ?_)
      refine wpAny_bind (wpAny_of_eq (a := pos) rfl ?_)
      have H : Hid T.W S ρ1 [(s1.heap.objs.size, methodObj (.ref f) (.ref aa))] ρ1 st2 (s1.heap.push (methodObj (.ref f) (.ref aa))) := O1.hide (fun _ _ e => Heap.get?_push_of_some _ e) fun p hp => by
        rw [List.mem_singleton.mp hp]; exact ⟨Heap.get?_push_size _ rfl, Nat.le_refl _⟩
      refine ks_call (P := fun h => T.W.K.In h ∧ h.get? s1.heap.objs.size = some (methodObj (.ref f) (.ref aa))) (by rw [hea]; rfl) (fun hh hP => ⟨.boundFrame, .inr (.inr rfl), ?_⟩) ?_
      · intro A' Q' E' s' kk q
        obtain ⟨of, fd, fo1, fo2⟩ := M.func
        unfold keeperOf
        refine wpAny_bind (wpAny_load (kk _ _ hP.2) ?_)
        show wpAny _ _ (do Pure.pure (match (← load f).data with | .func _ => Keeper.boundFrame | _ => Keeper.caller)) _ _ _
        refine wpAny_bind (wpAny_load (kk _ _ (hP.1 _ _ fo1)) ?_)
        rw [fo2]
        exact wpAny_pure q
      suffices hs : wpAny (model T.W.prog T.W.w) S.A (spliced (backTo pos (starEach [ea, .Starred eb sp] S.env))) (fun vs s' => (T.W.K.In s'.heap ∧ s'.heap.get? s1.heap.objs.size = some (methodObj (.ref f) (.ref aa))) ∧ wpAny (model T.W.prog T.W.w) S.A (call (.ref s1.heap.objs.size) ([] ++ vs) []) Q E s') E { s1 with heap := s1.heap.push (methodObj (.ref f) (.ref aa)), toks := s1.toks + 1 } by
        rw [hea] at hs ⊢
        exact PySem.Calls.evalArgs_plain hs
      refine wpAny_items_cons (ha m Cn.down (s := { s1 with heap := s1.heap.push (methodObj (.ref f) (.ref aa)), toks := s1.toks + 1 }) (In.plus I) H.ok h3 _ _ fun ua ρ2 s2 e3 O2 p2 m2 => ?_) (hea _)
      refine items_star (hb m Cn.down (In.plus I) O2 h5 _ _ fun ub ρ3 s3 e4 O3 p3 m3 => ?_)
      have key : ∀ (bb : Addr) (its : Array Value) (nn : Nat) (TT : String), (TT = "list" ∨ TT = "tuple") → ub = .ref bb → s3.heap.get? bb = some { cls := .type TT, data := .seq its nn } → VRels ρ3 ws its.toList → its.size ≤ sizeLine →
          StarOf (model T.W.prog T.W.w) (S.plus [(s1.heap.objs.size, methodObj (.ref f) (.ref aa))]).A E ub (fun here s₂ => wpAny (model T.W.prog T.W.w) S.A (spliced (backTo pos (starEach [] S.env))) (fun vs s₃ => (T.W.K.In s₃.heap ∧ s₃.heap.get? s1.heap.objs.size = some (methodObj (.ref f) (.ref aa))) ∧ wpAny (model T.W.prog T.W.w) S.A (call (.ref s1.heap.objs.size) ([] ++ (ua :: (here ++ vs))) []) Q E s₃) E s₂) s3 := by
        intro bb its nn TT hTT hub hbb hvs hsz
        subst hub
        have hT' : s3.TypeIs (.ref bb) TT := ⟨_, hbb, rfl⟩
        have z : wpAny (model T.W.prog T.W.w) (S.plus [(s1.heap.objs.size, methodObj (.ref f) (.ref aa))]).A (collect (.ref bb)) (fun here s₂ => wpAny (model T.W.prog T.W.w) S.A (spliced (backTo pos (starEach [] S.env))) (fun vs s₃ => (T.W.K.In s₃.heap ∧ s₃.heap.get? s1.heap.objs.size = some (methodObj (.ref f) (.ref aa))) ∧ wpAny (model T.W.prog T.W.w) S.A (call (.ref s1.heap.objs.size) ([] ++ (ua :: (here ++ vs))) []) Q E s₃) E s₂) E s3 := by
          refine wpAny_collect_seq bb hTT hbb rfl rfl (fun h' hk => ?_) hsz
          refine wpAny_items_nil ?_
          have O4 := O3.keeps hk
          refine ⟨⟨O4.inK, O4.rel.base _ _ (.inr (.head _))⟩, ?_⟩
          rw [List.append_nil]
          refine wpAny_call (ks_codeAny_call_bound (s := { s3 with heap := h' }) (O4.rel.base _ _ (.inr (.head _))) ?_)
          have hv : VRels ρ3 (.ref k :: [va] ++ ws) (.ref aa :: (ua :: its.toList)) := ⟨p1.mono (e3.trans e4), p2.mono e4, hvs⟩
          refine Cn m (Nat.lt_succ_self _) (s := { s3 with heap := h' }) O4 h hv _ _ fun u2 ρ5 s5 e5 O5 p5 m5 _ => ?_
          have H5 := H.after ((e3.trans e4).trans e5) O5
          exact hQ _ _ _ (((e1.trans e3).trans e4).trans e5) H5.bare p5 (m1.trans (Same.trans ⟨m2.gens, m2.drawn, m2.os⟩ (m3.trans ⟨m5.gens, m5.drawn, m5.os⟩)))
        unfold StarOf notIterableAtAll
        rcases hTT with rfl | rfl
        · exact wpAny_bind (wpAny_specialOf hT' PySem.F.slot_list_iter.lookup (wpAny_pure ⟨rfl, z⟩))
        · exact wpAny_bind (wpAny_specialOf hT' PySem.F.slot_tuple_iter.lookup (wpAny_pure ⟨rfl, z⟩))
      have hlen := run_c_len h
      have hlen : ws.length ≤ 1000 := by simp at hlen; omega
      rcases hcb with rfl | rfl
      · obtain ⟨bb, its, nn, rfl, _, g1', g2'⟩ := O3.list e6 p3
        have l := g2'.length
        simp only [Array.length_toList] at l
        exact key bb its nn "list" (.inl rfl) rfl g1' g2' (by rw [sizeLine_is]; omega)
      · obtain ⟨bb, its, nn, rfl, _, g1', g2'⟩ := O3.tuple e6 p3
        have l := g2'.length
        simp only [Array.length_toList] at l
        exact key bb its nn "tuple" (.inr rfl) rfl g1' g2' (by rw [sizeLine_is]; omega)
end
end Mine
end

section
set_option genSizeOf false
set_option genInjectivity false
namespace Mine
section
variable {T : Tx}
theorem SE.str2 {x y : Str} {k : Nat} {pos : Pos} (h : x = y) : SE T (.const (.str x)) (.Constant (.str y) k pos) := h ▸ SE.str
theorem SE.attr2 {a : CE} {e : Expr} {x y : Str} {pos : Pos} (h : x = y) (hx : AttrOk T.P T.W.K x) (ha : SE T a e) (hbase : ∀ env whole, attributeBase e y env whole = whole := by intro _ _; rfl) (ht : TempOk e := by first | exact temp_name | exact temp_sub | exact temp_call | exact temp_attr) : SE T (.attr a x) (.Attribute e y pos) := by subst h; exact SE.attr hx ha hbase ht
theorem SA.attr2 {o : CE} {a : Expr} {x y : Str} {pos : Pos} (h : x = y) (hx : AttrOk T.P T.W.K x) (ho : SE T o a) : SA T (.attr o x) (.Attribute a y pos) := by subst h; exact SA.attr hx ho
theorem SS.augattr2 {o : CE} {x y : Str} {op : Operator} {a : CE} {oe e : Expr} {tpos pos : Pos} (h : x = y) (hx : AttrOk T.P T.W.K x) (ho : SE T o oe) (ha : SE T a e) : SS T (.augattr o x op a) (.AugAssign (.Attribute oe y tpos) op e pos) := by subst h; exact SS.augattr hx ho ha
theorem SE.callm2 {o : CE} {x y : Str} {pure : Bool} {cs : List CE} {e : Expr} {es : List Expr} {apos pos : Pos} (h : x = y) (hx : MethsOk T.P T.W.K x) (ho : SE T o e) (ha : SEs T cs es)
    (hbase : ∀ env whole, attributeBase e y env whole = whole := by intro _ _; rfl) (hline : (apos.endLine == pos.line) = true := by rfl) (hlen : decide (es.length < 30) = true := by rfl) : SE T (.callm o x pure cs none) (.Call (.Attribute e y apos) es [] pos) := by subst h; exact SE.callm hx ho ha hbase hline hlen
theorem SE.calls2 {o : CE} {x y : Str} {a b : CE} {e ea eb : Expr} {apos pos sp : Pos} (h : x = y) (hx : MethsOk T.P T.W.K x) (ho : SE T o e) (ha : SE T a ea) (hb : SE T b eb)
    (hbase : ∀ env whole, attributeBase e y env whole = whole := by intro _ _; rfl) (hea : ∀ env, starEach (ea :: [.Starred eb sp]) env = (false, eval ea env) :: starEach [.Starred eb sp] env := by intro _; rfl) : SE T (.callm o x false [a] (some b)) (.Call (.Attribute e y apos) [ea, .Starred eb sp] [] pos) := by subst h; exact SE.calls hx ho ha hb hbase hea
end
noncomputable def uniqB (ks : Kinds) : Bool := match ks with
  | [] => true
  | a :: r => (r.all fun b => decide (a.2 = .out) || decide (b.2 = .out) || decide (a.1 ≠ b.1)) && uniqB r
theorem uniq_of : ∀ {ks : Kinds}, uniqB ks = true → Uniq ks
  | [], _ => .nil
  | a :: r, h => by
    unfold uniqB at h
    rw [Bool.and_eq_true] at h
    refine .cons (fun b hb => ?_) (uniq_of h.2)
    have := List.all_eq_true.mp h.1 b hb
    simp only [Bool.or_eq_true, decide_eq_true_eq] at this
    rcases this with (q | q) | q
    · exact .inl q
    · exact .inr (.inl q)
    · exact .inr (.inr q)
noncomputable def compAt (tks : Kinds) (names : List (Str × NameKind)) (ts : List Nat) (i : Nat) (o : Option (Str × SK)) : Bool := match o with
  | some (x, .loc) => decide ((x, NameKind.local) ∈ names) && decide (i ∈ ts)
  | some (_, .cell) => false
  | some (x, .free) => decide ((x, NameKind.free) ∈ names) && (decide (tks[i]? = some (x, SK.cell)) || decide (tks[i]? = some (x, SK.free))) && decide (i ∉ ts)
  | _ => true
noncomputable def compChk (tks : Kinds) (names : List (Str × NameKind)) (ks : Kinds) (ts : List Nat) : Bool :=
  (names.all fun y => decide (y.2 ≠ .cell)) && decide ((names.map (·.1)).Nodup) &&
  ((List.range ks.length).all fun i => compAt tks names ts i ks[i]?) &&
  (names.all fun p => decide (p.2 ≠ .free) || (List.range tks.length).any fun i => decide (tks[i]? = some (p.1, SK.cell)) || decide (tks[i]? = some (p.1, SK.free))) && uniqB ks
theorem CompOk.of {T : Tx} {scope : Scope} {ks : Kinds} {ts : List Nat} (hk : scope.kind = .function) (h : compChk T.ks scope.names ks ts = true) : CompOk T scope ks ts := by
  unfold compChk at h
  simp only [Bool.and_eq_true] at h
  obtain ⟨⟨⟨⟨h1, h2⟩, h3⟩, h4⟩, h5⟩ := h
  have at_ : ∀ (i : Nat) (p : Str × SK), ks[i]? = some p → i ∈ List.range ks.length := fun i p e => List.mem_range.mpr (List.getElem?_eq_some_iff.mp e).1
  refine ⟨hk, fun y hy => ?_, of_decide_eq_true h2, fun i x e => ?_, fun i x e => ?_, fun i x e => ?_, fun p hp e => ?_, uniq_of h5⟩
  · exact of_decide_eq_true (List.all_eq_true.mp h1 y hy)
  · have h := List.all_eq_true.mp h3 i (at_ i _ e)
    rw [e] at h
    have h : (decide ((x, NameKind.local) ∈ scope.names) && decide (i ∈ ts)) = true := h
    rw [Bool.and_eq_true] at h
    exact ⟨of_decide_eq_true h.1, of_decide_eq_true h.2⟩
  · have h := List.all_eq_true.mp h3 i (at_ i _ e)
    rw [e] at h
    exact Bool.noConfusion h
  · have h := List.all_eq_true.mp h3 i (at_ i _ e)
    rw [e] at h
    have h : (decide ((x, NameKind.free) ∈ scope.names) && (decide (T.ks[i]? = some (x, SK.cell)) || decide (T.ks[i]? = some (x, SK.free))) && decide (i ∉ ts)) = true := h
    simp only [Bool.and_eq_true, Bool.or_eq_true, decide_eq_true_eq] at h
    exact ⟨h.1.1, h.1.2, h.2⟩
  · have := List.all_eq_true.mp h4 p hp
    simp only [Bool.or_eq_true, decide_eq_true_eq] at this
    rcases this with q | q
    · exact absurd e q
    · obtain ⟨i, _, hi⟩ := List.any_eq_true.mp q
      simp only [Bool.or_eq_true, decide_eq_true_eq] at hi
      exact ⟨i, hi⟩
noncomputable def boundKs (ks : Kinds) (xs : List Str) : Bool := (List.range xs.length).all fun i => match ks[i]?, xs[i]? with
  | some (y, k), some x => decide (x = y) && (decide (k = .loc) || decide (k = .cell))
  | _, _ => false
theorem boundKs_at {ks : Kinds} {xs : List Str} (h : boundKs ks xs = true) (i : Nat) (x : Str) (e : xs[i]? = some x) : (ks.map (·.1))[i]? = some x ∧ (ks[i]?.map (·.2) = some SK.loc ∨ ks[i]?.map (·.2) = some SK.cell) := by
  have := List.all_eq_true.mp h i (List.mem_range.mpr (List.getElem?_eq_some_iff.mp e).1)
  rw [e] at this
  cases q : ks[i]? with
  | none => rw [q] at this; cases this
  | some p =>
    obtain ⟨y, k⟩ := p
    rw [q] at this
    simp only [Bool.and_eq_true, Bool.or_eq_true, decide_eq_true_eq] at this
    obtain ⟨rfl, hk⟩ := this
    rw [List.getElem?_map, q]
    refine ⟨rfl, ?_⟩
    rcases hk with rfl | rfl
    · exact .inl rfl
    · exact .inr rfl
theorem zip_fst {α β : Type} : ∀ {xs : List α} {ys : List β}, xs.length = ys.length → (xs.zip ys).map (·.1) = xs
  | [], [], _ => rfl
  | x :: xs, y :: ys, h => by simp only [List.zip_cons_cons, List.map_cons]; rw [zip_fst (by simpa using h)]
theorem zip_snd {α β : Type} : ∀ {xs : List α} {ys : List β}, xs.length = ys.length → (xs.zip ys).map (·.2) = ys
  | [], [], _ => rfl
  | x :: xs, y :: ys, h => by simp only [List.zip_cons_cons, List.map_cons]; rw [zip_snd (by simpa using h)]
theorem Binds.plain {W : Wd} {fd : FuncData} {fn : Fn} {ks : Kinds} {xs : List Str} (hva : fn.va = false) (hdf : fn.defs = []) (hn : fn.n = xs.length) (hks : boundKs ks xs = true) (hnd : xs.Nodup)
    (hb : ∀ us : List Value, us.length = xs.length → bindArgs fd ⟨us, []⟩ = pure (xs.zip us)) : Binds W fd fn ks := fun {S ρ st s args us} A Q E O hv hok h => by
  obtain ⟨h1, h2, _⟩ := hok
  have hg : givenV fn args = args := by
    unfold givenV at h1 ⊢
    rw [hdf] at h1 ⊢
    simp only [List.drop_nil, List.append_nil, List.length_take, hva, Bool.false_eq_true, false_or] at h1 h2 ⊢
    exact List.take_of_length_le (by omega)
  have hl : args.length = xs.length := by rw [← hn, ← h1, hg]
  have hl2 : xs.length = us.length := by rw [← hl]; exact hv.length
  rw [hb us hl2.symm]
  refine wpAny_pure (h _ ρ s (Ext.refl _) ?_ Same.refl (fun _ _ e => e) (fun i x e => boundKs_at hks i x (by rw [zip_fst hl2] at e; exact e)) (by rw [zip_fst hl2]; exact hnd) ?_)
  · unfold boundH; rw [hva]; exact O
  · rw [zip_snd hl2]; unfold boundV; rw [hva, hg]; simpa using hv
theorem Binds.dflt {W : Wd} {fd : FuncData} {fn : Fn} {ks : Kinds} {x y : Str} (hva : fn.va = false) (hdf : fn.defs = [.none]) (hn : fn.n = 2) (hks : boundKs ks [x, y] = true) (hnd : [x, y].Nodup)
    (hb1 : ∀ u (s : Shared), W.K.In s.heap → BindsTo s fd ⟨[u], []⟩ [(x, u), (y, .none)]) (hb2 : ∀ u v (s : Shared), W.K.In s.heap → BindsTo s fd ⟨[u, v], []⟩ [(x, u), (y, v)]) : Binds W fd fn ks := fun {S ρ st s args us} A Q E O hv hok h => by
  obtain ⟨h1, h2, _⟩ := hok
  have hle : args.length ≤ 2 := by rw [hva, hn] at h2; simpa using h2
  cases args with
  | nil => unfold givenV at h1; rw [hdf, hn] at h1; simp at h1
  | cons a r =>
    cases us with
    | nil => exact False.elim hv
    | cons u us =>
      have hv1 := hv.1
      replace hv := hv.2
      cases r with
      | nil =>
        cases us with
        | cons _ _ => exact False.elim hv
        | nil =>
          refine hb1 u s O.inK _ _ _ _ (h _ ρ s (Ext.refl _) ?_ Same.refl (fun _ _ e => e) (fun i x e => boundKs_at hks i x e) hnd ?_)
          · unfold boundH; rw [hva]; exact O
          · unfold boundV givenV; rw [hva, hn, hdf]; exact ⟨hv1, rfl, trivial⟩
      | cons b r =>
        cases us with
        | nil => exact False.elim hv
        | cons v us =>
          cases r with
          | cons _ _ => simp at hle
          | nil =>
            cases us with
            | cons _ _ => exact False.elim hv.2
            | nil =>
              refine hb2 u v s O.inK _ _ _ _ (h _ ρ s (Ext.refl _) ?_ Same.refl (fun _ _ e => e) (fun i x e => boundKs_at hks i x e) hnd ?_)
              · unfold boundH; rw [hva]; exact O
              · unfold boundV givenV; rw [hva, hn, hdf]; exact ⟨hv1, hv.1, trivial⟩
theorem VRels.cut {ρ : Rho} : ∀ {as : List CV} {us : List Value} (n : Nat), VRels ρ as us → VRels ρ (as.take n) (us.take n) ∧ VRels ρ (as.drop n) (us.drop n)
  | _, _, 0, h => ⟨trivial, h⟩
  | [], [], _ + 1, _ => ⟨trivial, trivial⟩
  | _ :: _, _ :: _, n + 1, ⟨h, r⟩ => ⟨⟨h, (r.cut n).1⟩, (r.cut n).2⟩
  | [], _ :: _, _ + 1, h => h.elim
  | _ :: _, [], _ + 1, h => h.elim
theorem Binds.rest {W : Wd} {fd : FuncData} {fn : Fn} {ks : Kinds} {xs : List Str} {r : Str} (hva : fn.va = true) (hdf : fn.defs = []) (hn : fn.n = xs.length) (hks : boundKs ks (xs ++ [r]) = true) (hnd : (xs ++ [r]).Nodup)
    (hb : ∀ us vs : List Value, us.length = xs.length → vs.length ≤ 1000 → bindArgs fd ⟨us ++ vs, []⟩ = (do let t ← newTuple vs; pure (xs.zip us ++ [(r, t)]))) : Binds W fd fn ks := fun {S ρ st s args us} A Q E O hv hok h => by
  obtain ⟨h1, _, h3⟩ := hok
  have hg : givenV fn args = args.take fn.n := by unfold givenV; rw [hdf]; simp
  rw [hg, List.length_take] at h1
  have hla : fn.n ≤ args.length := by omega
  have hul := hv.length
  have hsplit : us = us.take fn.n ++ us.drop fn.n := (List.take_append_drop _ _).symm
  have hvt : VRels ρ (args.take fn.n) (us.take fn.n) ∧ VRels ρ (args.drop fn.n) (us.drop fn.n) := hv.cut fn.n
  have hl1 : (us.take fn.n).length = xs.length := by rw [List.length_take, ← hn]; omega
  have hl2 : (us.drop fn.n).length ≤ 1000 := by rw [List.length_drop]; omega
  rw [hsplit, hb _ _ hl1 hl2]
  unfold newTuple
  refine wpAny_bind (wpAny_newObj_type (wpAny_pure ?_) (show (us.drop fn.n).toArray.size ≤ sizeLine by rw [List.size_toArray, sizeLine_is]; omega))
  have hz1 : ((xs.zip (us.take fn.n) ++ [(r, Value.ref s.heap.objs.size)]).map (·.1)) = xs ++ [r] := by rw [List.map_append, zip_fst hl1.symm]; rfl
  have hz2 : ((xs.zip (us.take fn.n) ++ [(r, Value.ref s.heap.objs.size)]).map (·.2)) = us.take fn.n ++ [Value.ref s.heap.objs.size] := by rw [List.map_append, zip_snd hl1.symm]; rfl
  have Op := O.push (co := .tuple (args.drop fn.n)) (o := { cls := .type "tuple", data := .seq (us.drop fn.n).toArray }) rfl fun ρ' hE => ⟨_, _, 0, rfl, rfl, by simpa using hvt.2.mono hE⟩
  refine h _ (ρ ++ [[s.heap.objs.size]]) { s with heap := s.heap.push { cls := .type "tuple", data := .seq (us.drop fn.n).toArray } } ⟨_, rfl⟩ ?_ Same.rfl (fun _ _ e => Heap.get?_push_of_some _ e) (fun i x e => boundKs_at hks i x (by rw [hz1] at e; exact e)) (by rw [hz1]; exact hnd) ?_
  · unfold boundH; rw [hva]; exact Op
  · rw [hz2]; unfold boundV; rw [hva, hg]
    exact (hvt.1.mono ⟨_, rfl⟩).append ⟨O.newRef _, trivial⟩
end Mine
end

section
set_option genSizeOf false
set_option genInjectivity false
namespace Mine
section
variable {T : Tx}
theorem BN.of {x : Str} {f : Value} (hs : T.sc.names.lookup x = some .globalImplicit) (ht : nsIn T.W.K mainGlobals x = some none) (hb : bootBuiltins x = some f) (hn : x ≠ "__name__" := by decide) (hd : (x == ("__debug__" : Str)) = false := by decide) : BN T x f := ⟨hs, ht, hb, hn, hd⟩
theorem SS.assignU {ct : CT} {tgt : Expr} {a : CE} {e : Expr} {pos : Pos} (ht : SA T ct tgt) (ha : SE T a e) (hs : ∀ line env, swapsWith e (some tgt) line env = pure false := by intro _ _; rfl) (hm : ∀ env, (assignEach [tgt] env).map (·.2) = [PySem.assign tgt env] := by intro _; rfl)
    (hw : ∀ env : Env, swappedStores [tgt] e env = pure none := by intro _; rfl) : SS T (.assign ct a) (.Assign [tgt] e pos) := fun n C S ρ st st' s f I O h => by
  replace h := run_s h
  obtain ⟨m, rfl, h⟩ := h
  unfold stepS at h
  replace h := bnd_some h
  obtain ⟨v, st1, h1, h⟩ := h
  replace h := bnd_some h
  obtain ⟨v2, st2, h2, h⟩ := h
  (first | exact nope h | refine rt_elim h ?_ | cases h)
  intro Q E hQ
  refine wpAny_Assign_stores (ha m C.down I O h1 _ _ fun c' ρ1 s1 e1 O1 p1 m1 => ?_) (hs _ _) (hw _)
  rw [hm]
  exact ht m C.down I O1 h2 p1 _ _ fun _ ρ2 s2 e2 O2 _ m2 => hQ _ _ _ (e1.trans e2) O2 rfl (m1.trans m2)
theorem swapped_of {env : Env} {sc : Scope} {ts : List Expr} {e : Expr} {r : Option (List Str)} (h : env.scope = sc) (hr : swappedStores ts e { env with scope := sc } = pure r) : swappedStores ts e env = pure r := by
  subst h; exact hr
theorem SA.subs {o1 k1 o2 k2 : CE} {a1 b1 a2 b2 : Expr} {p1 p2 pos : Pos} {kk : Nat} (h1 : SE T o1 a1) (h2 : SE T k1 b1) (h3 : SE T o2 a2) (h4 : SE T k2 b2) : SA T (.subs o1 k1 o2 k2) (.Tuple [.Subscript a1 b1 p1, .Subscript a2 b2 p2] kk pos) := fun n C S ρ st st' s v u y I O h hv Q E hQ => by
  (replace h := guardD_some h; obtain ⟨hd, h⟩ := h)
  replace h := bnd_some h
  obtain ⟨⟨k', co⟩, st0, g0, h⟩ := h
  obtain ⟨rfl, e0, rfl⟩ := look_some g0
  dsimp only at e0 h
  induction co with
  | tuple xs =>
    match xs, h with
    | [x, z], h =>
      dsimp only at h
      replace h := bnd_some h
      obtain ⟨w1, st1, q1, h⟩ := h
      replace h := bnd_some h
      obtain ⟨i1, st2, q2, h⟩ := h
      replace h := bnd_some h
      obtain ⟨y1, st3, q3, h⟩ := h
      replace h := bnd_some h
      obtain ⟨w2, st4, q4, h⟩ := h
      replace h := bnd_some h
      obtain ⟨i2, st5, q5, h⟩ := h
      obtain ⟨b, vs, n', rfl, _, g1, g2⟩ := O.tuple e0 hv
      (replace g2 := g2.two; obtain ⟨ux, uz, hvs, rx, rz⟩ := g2)
      have hsz : vs.size = 2 := by rw [← Array.length_toList, hvs]; rfl
      rw [arm_assign_Tuple]
      refine wpAny_bind (wpAny_standAt ?_)
      unfold unpack
      refine wpAny_bind (wpAny_holding ?_)
      show wpAny _ _ (unpackItems (.ref b) 2 none) _ _ _
      rw [← hsz]
      refine unpackItems_tuple (O.ctx.handled (by rw [← O.dep]; exact hd)) ⟨_, g1, rfl, n', rfl⟩ fun h' hx => ?_
      have O' : Ok T.W S ρ _ h' := O.keeps fun b o e => hx b o (Nat.ne_of_lt (Heap.lt_size e)) e
      rw [hvs]
      show wpAny _ _ (do holding [uz] (assign (.Subscript a1 b1 p1) S.env ux); (do holding [] (assign (.Subscript a2 b2 p2) S.env uz); pure ())) _ _ _
      have A1 : SA T (.sub o1 k1) (.Subscript a1 b1 p1) := SA.sub h1 h2
      have A2 : SA T (.sub o2 k2) (.Subscript a2 b2 p2) := SA.sub h3 h4
      have e1 : asgT T.P (run T.P n) (.sub o1 k1) x st0 = some (y1, st3) := by
        show (bnd ((run T.P n).e o1) fun w => bnd ((run T.P n).e k1) fun i => setV w i x) st0 = _
        unfold bnd; rw [q1]; dsimp only; rw [q2]; exact q3
      have e2 : asgT T.P (run T.P n) (.sub o2 k2) z st3 = some (y, st') := by
        show (bnd ((run T.P n).e o2) fun w => bnd ((run T.P n).e k2) fun i => setV w i z) st3 = _
        unfold bnd; rw [q4]; dsimp only; rw [q5]; exact h
      refine wpAny_bind (wpAny_holding (A1 n C (s := { s with heap := h' }) I O' e1 rx _ _ fun _ ρ1 s1 e1 O1 _ m1 => ?_))
      refine wpAny_bind (wpAny_holding (A2 n C I O1 e2 (rz.mono e1) _ _ fun _ ρ2 s2 e2 O2 _ m2 => ?_))
      exact wpAny_pure (hQ _ _ _ (e1.trans e2) O2 trivial (Same.trans Same.rfl (m1.trans m2)))
    | [], h => (first | exact nope h | refine rt_elim h ?_ | cases h)
    | [_], h => (first | exact nope h | refine rt_elim h ?_ | cases h)
    | _ :: _ :: _ :: _, h => (first | exact nope h | refine rt_elim h ?_ | cases h)
  | _ => (first | exact nope h | refine rt_elim h ?_ | cases h)
end
noncomputable def isFuncAt (K : Frag) (f : Addr) : Bool := match K.lookup f with
  | some ⟨_, _, .func _, _⟩ => true
  | _ => false
theorem func_of {K : Frag} {f : Addr} (h : isFuncAt K f = true) : ∃ o fd, K.lookup f = some o ∧ o.data = .func fd := by
  unfold isFuncAt at h
  cases q : K.lookup f with
  | none => rw [q] at h; exact Bool.noConfusion h
  | some o =>
    rw [q] at h
    obtain ⟨c, dt, d, sl⟩ := o
    cases d with
    | func fd => exact ⟨_, fd, rfl, rfl⟩
    | _ => exact Bool.noConfusion h
noncomputable def objAt (K : Frag) (f : Addr) : Obj := (K.lookup f).getD { cls := .none }
noncomputable def fdAt (K : Frag) (f : Addr) : FuncData := match K.lookup f with
  | some ⟨_, _, .func fd, _⟩ => fd
  | _ => default
noncomputable def bodyOf (K : Frag) (f : Addr) : List Stmt := match K.lookup f with
  | some ⟨_, _, .func fd, _⟩ => (match fd.body with
    | .stmts b => b
    | _ => [])
  | _ => []
noncomputable abbrev nL (x : String) : Str × NameKind := (Str.ofString x, .local)
noncomputable abbrev nC (x : String) : Str × NameKind := (Str.ofString x, .cell)
noncomputable abbrev nF (x : String) : Str × NameKind := (Str.ofString x, .free)
noncomputable abbrev nG (x : String) : Str × NameKind := (Str.ofString x, .globalImplicit)
noncomputable abbrev mkSc (xs : List (Str × NameKind)) (fs : List String) : Scope := { kind := .function, names := xs, isGenerator := false, isCoroutine := false, more := fs.map fun x => (Str.ofString "fast", Const.str (Str.ofString x)) }
end Mine
end

section
set_option genSizeOf false
set_option genInjectivity false
namespace Mine
structure TopObjs (W : Wd) (hp0 : List CO) : Prop where
  len : W.top.length = hp0.length
  obj : ∀ (k : Nat) (co : CO) (a : Addr), hp0[k]? = some co → W.top[k]? = some a → ∃ o, W.K.lookup a = some o ∧ Shape W.prog W.w (W.top.map fun a => [a]) [a] [o] co
  big : ∀ a ∈ W.top, 3 < a
noncomputable def lawSt (fn : Fn) (hp0 : List CO) (ns : List Int) : St := ⟨some (.ref hp0.length) :: List.replicate (fn.ns - 1) none, hp0 ++ [.list (ns.map .int)], hp0.length + 1, 60⟩
theorem top_sound {P : Prog} {W : Wd} {hp0 : List CO} (TO : TopObjs W hp0) (hlim : ∀ h, W.K.In h → h.NoLimit) (hall : ∀ f fn, P.fn f = some fn → ∃ o fd body ks, FnReal P W f fn o fd body ks)
    {fn : Fn} {f : Addr} {o : Obj} {fd : FuncData} {body : List Stmt} {ks : Kinds} (F : FnReal P W f fn o fd body ks) {x : Str} (hx : ks[0]? = some (x, .loc)) (hb : ∀ u, bindArgs fd ⟨[u], []⟩ = pure [(x, u)])
    {s : Shared} {l : Addr} {vs : List Value} {ns : List Int} (hK : W.K.In s.heap) (hl : s.heap.get? l = some { cls := .type "list", data := .seq vs.toArray }) (hvs : IntsAre vs ns) (hl3 : 3 < l)
    (hbl : ∃ o es ep, s.heap.get? builtinsNs = some o ∧ o.data = .dict es ep ∧ StrKeys es ∧ ∀ x : Str, x ≠ "__name__" → nsFind es x = bootBuiltins x) (hgl : ∃ o, s.heap.get? 3 = some o)
    {n : Nat} {st2 : St} (hrun : (run P n).b fn.body (lawSt fn hp0 ns) = some (.ret (.bool true), st2))
    {R : Result → Shared → Prop} (hR : ∀ s' : Shared, (∀ b o, s.heap.get? b = some o → s'.heap.get? b = some o) → Same s s' → R (.ok (.ret (.bool true))) s') :
    codeAny (model W.prog W.w) callerA (.call (.ref f) ⟨[.ref l], []⟩) R s := by
  refine codeAny_call_function (by decide) (hK _ _ F.here) F.data F.co F.gen F.bodyIs (codeRec_of hK F.code) ?_
  rw [hb]
  refine wpAny_pure ?_
  rw [F.clo]
  refine wpAny_newFunctionEnv_cells F.kind (fun y hy => ?_) fun env he s2 X => ?_
  · rw [List.mem_singleton] at hy
    subst hy
    exact .inl ((ksOk.get F.chk hx).1 rfl)
  · obtain ⟨h2, tk, rfl⟩ := X.toInCall.same
    have kp := X.toInCall.keep
    subst he
    refine ⟨hlim _ (fun a o e => kp _ _ (hK a o e)), codeAny_func ?_⟩
    generalize hcell : cellsFrom (s.heap.objs.size + 1) fd.scope.names [] = cells at X ⊢
    have hEnv : EnvOk (newEnv fd.scope s.heap.objs.size fd.globals cells (fd.qualname ++ ".<locals>.") (some f) fd.code none fd.builtins) ks :=
      ⟨F.kind, F.glob, F.blt, fun i x e => (ksOk.get F.chk e).1 rfl, fun i x e => (ksOk.get F.chk e).2.1 rfl, fun i x e => absurd rfl (ksOk.get F.chk e).2.2, fun i j x k k' a b c d => F.uniq.at i j x k k' a b c d, X.apart⟩
    let S : Sit := { B := fun a o => s.heap.get? a = some o, env := newEnv fd.scope s.heap.objs.size fd.globals cells (fd.qualname ++ ".<locals>.") (some f) fd.code none fd.builtins, ks := ks, cs := (cells.filter fun p => cells.lookup p.1 == some p.2).map (·.2), A := callerA.deeper (newEnv fd.scope s.heap.objs.size fd.globals cells (fd.qualname ++ ".<locals>.") (some f) fd.code none fd.builtins), lo := hp0.length + 1, dep := 60, fr := [] }
    have habove : ∀ c ∈ S.cs, s.heap.objs.size < c := fun c hc => by
      obtain ⟨p, hp, rfl⟩ := List.mem_map.mp hc
      exact X.above p.1 p.2 (List.mem_filter.mp hp).1
    have hfresh : ∀ a, s.heap.objs.size ≤ a → ∀ o, ¬ s.heap.get? a = some o := fun a ha o e => absurd (Heap.lt_size e) (Nat.not_lt.mpr ha)
    have hlenρ : (W.top.map (fun a => [a]) ++ [[l]]).length = hp0.length + 1 := by rw [List.length_append, List.length_map, TO.len]; rfl
    have dr : (W.top.map (fun a => [a]) ++ [[l]]).drop (hp0.length + 1) = [] := by rw [← hlenρ]; exact List.drop_length ..
    have hown : own S.env S.cs (W.top.map (fun a => [a]) ++ [[l]]) (hp0.length + 1) = S.env.locals :: S.cs := by
      unfold own; rw [dr, List.flatten_nil, List.append_nil]
    have Oc : Ok W S (W.top.map (fun a => [a]) ++ [[l]]) (lawSt fn hp0 ns) h2 := by
      refine ⟨fun a o e => hK a o e, let ⟨o, es, ep, x1, x2, x3, x4⟩ := hbl; ⟨o, es, ep, x1, x2, x3, x4⟩, hEnv, fun i a e => ?_, ⟨fun _ => rfl, by show 1 + claimMargin + 1 + 60 < recursionLimit; decide, by show 4 + 3 + 10 * 60 + 100 < cLine; decide⟩, rfl, rfl, ?_, fun p hp => (nomatch hp), fun _ => ⟨[], rfl, rfl, fun e he => (nomatch he)⟩⟩
      · have hi := (List.getElem?_eq_some_iff.mp e).1
        rw [List.getElem?_append_left (by rw [List.length_map]; exact hi), List.getElem?_map, e]; rfl
      refine ⟨fun b o e => kp _ _ e, by rw [hlenρ]; show _ = (hp0 ++ [CO.list (ns.map .int)]).length; simp, by show hp0.length + 1 ≤ (hp0 ++ [CO.list (ns.map .int)]).length; simp, ?_, ?_, ?_, ⟨_, X.toInCall.ns, ?_⟩, ?_, ?_, ?_, hgl, ?_⟩
      · intro k co as e1 e2
        have e1 : (hp0 ++ [CO.list (ns.map .int)])[k]? = some co := e1
        by_cases hk : k < hp0.length
        · rw [List.getElem?_append_left hk] at e1
          rw [List.getElem?_append_left (by rw [List.length_map, TO.len]; exact hk), List.getElem?_map] at e2
          obtain ⟨a, ha, rfl⟩ := Option.map_eq_some_iff.mp e2
          obtain ⟨o, g1, g2⟩ := TO.obj k co a e1 ha
          refine ⟨[o], ?_, g2.mono ⟨_, rfl⟩⟩
          rw [if_pos (by show k < hp0.length + 1; omega)]
          exact ⟨hK _ _ g1, trivial⟩
        · have hk' : k = hp0.length := by
            have := (List.getElem?_eq_some_iff.mp e1).1
            simp at this
            omega
          subst hk'
          rw [List.getElem?_append_right (Nat.le_refl _), Nat.sub_self] at e1
          rw [List.getElem?_append_right (by rw [List.length_map, TO.len]; exact Nat.le_refl _), List.length_map, TO.len, Nat.sub_self] at e2
          (first | exact nope e1 | cases e1)
          (first | exact nope e2 | cases e2)
          refine ⟨[{ cls := .type "list", data := .seq vs.toArray }], ?_, l, vs.toArray, 0, rfl, rfl, ?_⟩
          · rw [if_pos (by show hp0.length < hp0.length + 1; omega)]
            exact ⟨hl, trivial⟩
          · simpa using VRels.ofInts hvs
      · show (own S.env S.cs (W.top.map (fun a => [a]) ++ [[l]]) (hp0.length + 1)).Nodup
        rw [hown, List.nodup_cons]
        exact ⟨fun q => absurd (habove _ q) (Nat.lt_irrefl _), List.pairwise_map.mpr (X.apart.filter _)⟩
      · intro a ha o e
        have ha : a ∈ own S.env S.cs (W.top.map (fun a => [a]) ++ [[l]]) (hp0.length + 1) := ha
        rw [hown] at ha
        rcases List.mem_cons.mp ha with rfl | ha
        · exact hfresh _ (Nat.le_refl _) _ e
        · exact hfresh _ (Nat.le_of_lt (habove _ ha)) _ e
      · intro i y cv e1 e2
        cases i with
        | zero =>
          have e1 : ks[0]? = some (y, .loc) := e1
          rw [hx] at e1
          (first | exact nope e1 | cases e1)
          have e2 : some (some (CV.ref hp0.length)) = some (some cv) := e2
          (first | exact nope e2 | cases e2)
          refine ⟨.ref l, bindL_get ((ksOk.get F.chk hx).1 rfl) (binds := [(x, .ref l)]) (by simp) (i := 0) rfl, l, [], ?_, rfl⟩
          rw [List.getElem?_append_right (by rw [List.length_map, TO.len]; exact Nat.le_refl _), List.length_map, TO.len, Nat.sub_self]; rfl
        | succ j =>
          have e2 : (List.replicate (fn.ns - 1) (none : Option CV))[j]? = some (some cv) := e2
          have := List.mem_of_getElem? e2
          rw [List.mem_replicate] at this
          cases this.2
      · intro i y e1
        have hy := (ksOk.get F.chk e1).2.1 rfl
        obtain ⟨c, hcl⟩ := Option.isSome_iff_exists.mp (cellsFrom_has (n := s.heap.objs.size + 1) (acc := []) hy)
        rw [hcell] at hcl
        refine ⟨c, _, hcl, List.mem_map.mpr ⟨(y, c), List.mem_filter.mpr ⟨mem_of_lookup hcl, by dsimp only; rw [hcl]; exact beq_self_eq_true _⟩, rfl⟩, X.cell y c hcl, fun cv e2 => ?_⟩
        exfalso
        cases i with
        | zero =>
          have e1 : ks[0]? = some (y, .cell) := e1
          rw [hx] at e1; (first | exact nope e1 | cases e1)
        | succ j =>
          have e2 : (List.replicate (fn.ns - 1) (none : Option CV))[j]? = some (some cv) := e2
          have := List.mem_of_getElem? e2
          rw [List.mem_replicate] at this
          cases this.2
      · intro i y e
        exact absurd rfl (ksOk.get F.chk e).2.2
      · intro c hc
        obtain ⟨p, hp, rfl⟩ := List.mem_map.mp hc
        exact ⟨_, X.cell p.1 p.2 (beq_iff_eq.mp (List.mem_filter.mp hp).2)⟩
      · intro k as e a ha
        have := List.mem_of_getElem? e
        rcases List.mem_append.mp this with q | q
        · obtain ⟨b, hb', rfl⟩ := List.mem_map.mp q
          rw [List.mem_singleton.mp ha]
          exact TO.big b hb'
        · rw [List.mem_singleton.mp q] at ha
          rw [List.mem_singleton.mp ha]; exact hl3
    refine F.sound n (fun m _ => call_sound hlim hall m) (S := S) (s := { s with heap := h2, toks := tk }) ⟨rfl, rfl⟩ Oc hrun _ _ fun fr ρ3 s3 e3 O3 p3 m3 => ?_
    obtain ⟨u, rfl, hu⟩ := p3
    have hu : u = .bool true := hu
    subst hu
    exact hR s3 (fun b o e => O3.rel.base b o e) (Same.trans Same.rfl m3)
end Mine
end

section
set_option genSizeOf false
set_option genInjectivity false
namespace Mine
noncomputable def vOk (top : List Addr) (c : CV) (v : Value) : Bool := match c with
  | .int i => (match v with | .int j _ => decide (i = j) | _ => false)
  | .str x => (match v with | .str y _ => decide (x = y) | _ => false)
  | .ref k => (match v with | .ref a => decide (top[k]? = some a) | _ => false)
  | _ => false
theorem vOk_rel {top : List Addr} {c : CV} {v : Value} (h : vOk top c v = true) : VRel (top.map fun a => [a]) c v := by
  induction c with
  | int i =>
    cases v with
    | int j t => exact ⟨t, by rw [of_decide_eq_true h]⟩
    | _ => exact Bool.noConfusion h
  | str x =>
    cases v with
    | str y t => exact ⟨t, by rw [of_decide_eq_true h]⟩
    | _ => exact Bool.noConfusion h
  | ref k =>
    cases v with
    | ref a => exact ⟨a, [], by rw [List.getElem?_map, of_decide_eq_true h]; rfl, rfl⟩
    | _ => exact Bool.noConfusion h
  | _ => exact Bool.noConfusion h
noncomputable def vsOk (top : List Addr) : List CV → List Value → Bool
  | [], [] => true
  | c :: cs, v :: vs => vOk top c v && vsOk top cs vs
  | _, _ => false
theorem vsOk_rel {top : List Addr} : ∀ {cs : List CV} {vs : List Value}, vsOk top cs vs = true → VRels (top.map fun a => [a]) cs vs
  | [], [], _ => trivial
  | c :: cs, v :: vs, h => by
    have h : (vOk top c v && vsOk top cs vs) = true := h
    rw [Bool.and_eq_true] at h
    exact ⟨vOk_rel h.1, vsOk_rel h.2⟩
  | [], _ :: _, h => by cases h
  | _ :: _, [], h => by cases h
noncomputable def keyOk (k : Value) (i hsh : Int) : Bool := match k with
  | .int j _ => decide (j = i) && decide (hsh = hashInt j)
  | _ => false
theorem keyOk_inv {k : Value} {i hsh : Int} (h : keyOk k i hsh = true) : ∃ t, k = .int i t ∧ hsh = hashInt i := by
  cases k with
  | int j t =>
    obtain ⟨h1, h2⟩ := Bool.and_eq_true_iff.mp h
    obtain rfl := of_decide_eq_true h1
    exact ⟨t, rfl, of_decide_eq_true h2⟩
  | _ => exact Bool.noConfusion h
noncomputable def esOk (top : List Addr) : List (Int × CV) → List DictEntry → Bool
  | [], [] => true
  | c :: cs, e :: es => keyOk e.key c.1 e.hash && vOk top c.2 e.val && esOk top cs es
  | _, _ => false
theorem esOk_rel {prog : Program} {w : World} {top : List Addr} : ∀ {cs : List (Int × CV)} {es : List DictEntry}, esOk top cs es = true →
    (∀ e ∈ es, ∃ k, (intKind prog w).is k e.key = true ∧ e.hash = (intKind prog w).hash k) ∧ ∃ kvs, Pairs (intKind prog w) es kvs ∧ kvs.map (·.1) = cs.map (·.1) ∧ KVRel (top.map fun a => [a]) cs kvs
  | [], [], _ => ⟨fun e h => (nomatch h), [], .nil, rfl, trivial⟩
  | c :: cs, e :: es, h => by
    have h : (keyOk e.key c.1 e.hash && vOk top c.2 e.val && esOk top cs es) = true := h
    rw [Bool.and_eq_true, Bool.and_eq_true] at h
    obtain ⟨⟨h1, h2⟩, h3⟩ := h
    obtain ⟨g1, kvs, g2, g3, g4⟩ := esOk_rel (prog := prog) (w := w) h3
    obtain ⟨t, q, hh⟩ := keyOk_inv h1
    have hk : (intKind prog w).is c.1 e.key = true := by rw [q]; show Value.isInt c.1 (.int c.1 t) = true; simp [Value.isInt]
    refine ⟨fun e' he => ?_, (c.1, e.val) :: kvs, .cons hk rfl g2, by rw [List.map_cons, List.map_cons, g3], rfl, vOk_rel h2, g4⟩
    rcases List.mem_cons.mp he with rfl | he
    · exact ⟨_, hk, hh⟩
    · exact g1 e' he
  | [], _ :: _, h => by cases h
  | _ :: _, [], h => by cases h
noncomputable def nodupI : List Int → Bool
  | [] => true
  | x :: r => (r.all fun y => decide (x ≠ y)) && nodupI r
theorem nodupI_of : ∀ {xs : List Int}, nodupI xs = true → xs.Nodup
  | [], _ => .nil
  | x :: r, h => by
    have h : ((r.all fun y => decide (x ≠ y)) && nodupI r) = true := h
    rw [Bool.and_eq_true] at h
    exact List.nodup_cons.mpr ⟨fun m => (of_decide_eq_true (List.all_eq_true.mp h.1 x m)) rfl, nodupI_of h.2⟩
noncomputable def seqOk (top : List Addr) (xs : List CV) (d : Data) : Bool := match d with
  | .seq vs _ => vsOk top xs vs.toList
  | _ => false
noncomputable def dctOk (top : List Addr) (es : List (Int × CV)) (ep : Nat) (d : Data) : Bool := match d with
  | .dict res rep => decide (ep = rep) && nodupI (es.map (·.1)) && esOk top es res.toList
  | _ => false
noncomputable def bareOk (t : String) (o : Obj) : Bool := (match o.cls with | .type s => s == t | _ => false) && o.dict.isNone && o.slots.size == 0
theorem bareOk_is {t : String} {o : Obj} (h : bareOk t o = true) : o = { cls := .type t, dict := none, data := o.data, slots := #[] } := by
  obtain ⟨c, d, dt, sl⟩ := o
  unfold bareOk at h
  rw [Bool.and_eq_true, Bool.and_eq_true] at h
  obtain ⟨⟨h1, h2⟩, h3⟩ := h
  have e3 : sl = #[] := Array.eq_empty_of_size_eq_zero (beq_iff_eq.mp h3)
  have e2 : d = none := Option.isNone_iff_eq_none.mp h2
  subst e3; subst e2
  cases c with
  | type s => rw [show s = t from beq_iff_eq.mp h1]
  | _ => exact Bool.noConfusion h1
noncomputable def oOk (top : List Addr) (co : CO) (o : Obj) : Bool := match co with
  | .tuple xs => bareOk "tuple" o && seqOk top xs o.data
  | .dictI es ep => bareOk "dict" o && dctOk top es ep o.data
  | _ => false
theorem oOk_shape {prog : Program} {w : World} {top : List Addr} {co : CO} {o : Obj} {a : Addr} (h : oOk top co o = true) : Shape prog w (top.map fun a => [a]) [a] [o] co := by
  induction co with
  | tuple xs =>
    obtain ⟨h1, h2⟩ := Bool.and_eq_true_iff.mp h
    rw [bareOk_is h1]
    clear h1 h
    revert h2
    generalize o.data = d
    intro h2
    cases d with
    | seq vs n => exact ⟨a, vs, n, rfl, rfl, vsOk_rel h2⟩
    | _ => exact Bool.noConfusion h2
  | dictI es ep =>
    obtain ⟨h1, h2⟩ := Bool.and_eq_true_iff.mp h
    rw [bareOk_is h1]
    clear h1 h
    revert h2
    generalize o.data = d
    intro h2
    cases d with
    | dict res rep =>
      obtain ⟨h3, h5⟩ := Bool.and_eq_true_iff.mp h2
      obtain ⟨h3, h4⟩ := Bool.and_eq_true_iff.mp h3
      obtain rfl := of_decide_eq_true h3
      obtain ⟨g1, kvs, g2, g3, g4⟩ := esOk_rel (prog := prog) (w := w) h5
      exact ⟨a, _, res, kvs, ep, fun _ => rfl, rfl, rfl, ⟨rfl, rfl, rfl⟩, rfl, fun e he => g1 e (Array.mem_toList_iff.mpr he), g2, by rw [g3]; exact nodupI_of h4, g4⟩
    | _ => exact Bool.noConfusion h2
  | _ => exact Bool.noConfusion h
noncomputable def objOk (K : Frag) (top : List Addr) (a : Addr) (co : CO) : Bool := match K.lookup a with
  | some o => oOk top co o
  | none => false
theorem objOk_inv {K : Frag} {top : List Addr} {a : Addr} {co : CO} (h : objOk K top a co = true) : ∃ o, K.lookup a = some o ∧ oOk top co o = true := by
  unfold objOk at h
  cases q : K.lookup a with
  | none => rw [q] at h; exact Bool.noConfusion h
  | some o => rw [q] at h; exact ⟨o, rfl, h⟩
noncomputable def osOk (K : Frag) (top : List Addr) : List CO → List Addr → Bool
  | [], [] => true
  | co :: cos, a :: as => objOk K top a co && decide (3 < a) && osOk K top cos as
  | _, _ => false
theorem osOk_at {K : Frag} {top : List Addr} {prog : Program} {w : World} : ∀ {cos : List CO} {as : List Addr}, osOk K top cos as = true → as.length = cos.length ∧ (∀ a ∈ as, 3 < a) ∧ ∀ (k : Nat) (co : CO) (a : Addr), cos[k]? = some co → as[k]? = some a → ∃ o, K.lookup a = some o ∧ Shape prog w (top.map fun a => [a]) [a] [o] co
  | [], [], _ => ⟨rfl, fun a h => (nomatch h), fun k co a h => by simp at h⟩
  | co :: cos, a :: as, h => by
    have h : (objOk K top a co && decide (3 < a) && osOk K top cos as) = true := h
    simp only [Bool.and_eq_true, decide_eq_true_eq] at h
    obtain ⟨⟨h1, h2⟩, h3⟩ := h
    obtain ⟨g1, g2, g3⟩ := osOk_at (prog := prog) (w := w) h3
    refine ⟨by simp [g1], fun b hb => ?_, fun k co' b e1 e2 => ?_⟩
    · rcases List.mem_cons.mp hb with rfl | hb
      · exact h2
      · exact g2 b hb
    · cases k with
      | zero =>
        (first | exact nope e1 | refine some_elim e1 ?_ | cases e1); cases e2
        obtain ⟨o, q, h1⟩ := objOk_inv h1
        exact ⟨o, q, oOk_shape h1⟩
      | succ k => exact g3 k co' b e1 e2
  | [], _ :: _, h => by cases h
  | _ :: _, [], h => by cases h
theorem TopObjs.of {W : Wd} {hp0 : List CO} (h : osOk W.K W.top hp0 W.top = true) : TopObjs W hp0 :=
  let ⟨g1, g2, g3⟩ := osOk_at (prog := W.prog) (w := W.w) h
  ⟨g1, g3, g2⟩
theorem all_fns {Q : Addr → Fn → Prop} : ∀ {l : List (Addr × Fn)}, (∀ p ∈ l, Q p.1 p.2) → ∀ (f : Addr) (fn : Fn), l.lookup f = some fn → Q f fn
  | [], _, _, _, e => by cases e
  | (g, x) :: r, h, f, fn, e => by
    rw [List.lookup_cons] at e
    split at e
    · rename_i q
      (first | exact nope e | cases e)
      have := beq_iff_eq.mp q
      subst this
      exact h _ (.head _)
    · exact all_fns (fun p hp => h p (.tail _ hp)) f fn e
theorem noLimit_of {K : Frag} (e : K.lookup cStatics = some { cls := .none, data := .dict #[] }) (h : Heap) (X : K.In h) : h.NoLimit :=
  ⟨fun _ => none, ⟨_, #[], _, X _ _ e, rfl, fun e he => by simp at he, fun x => rfl⟩, rfl⟩
theorem list_exact {P : Params} {h : Heap} {l : Addr} {vs : List Value} {xs : List Int} (w1 : Well P h (.ref l) (ofPy (PyData.list (xs.map PyData.int)))) (hL : h.IsList l vs.toArray) : h.get? l = some { cls := .type "list", data := .seq vs.toArray } := by
  obtain ⟨o, ho, hc, n, hd⟩ := hL
  have w1 : Well P h (.ref l) (.list (ofPys (xs.map PyData.int))) := w1
  cases w1 with
  | list hg _ =>
    rw [ho] at hg
    cases hg
    have hd : Data.seq _ _ = Data.seq vs.toArray n := hd
    (first | exact nope hd | refine some_elim hd ?_ | cases hd)
    exact ho
noncomputable def isDictAt (K : Frag) (a : Addr) : Bool := match K.lookup a with
  | some ⟨_, _, .dict _ _, _⟩ => true
  | _ => false
theorem dict_of {K : Frag} {a : Addr} (h : isDictAt K a = true) : ∃ o es n, K.lookup a = some o ∧ o.data = .dict es n := by
  unfold isDictAt at h
  cases q : K.lookup a with
  | none => rw [q] at h; exact Bool.noConfusion h
  | some o =>
    rw [q] at h
    obtain ⟨c, dt, d, sl⟩ := o
    cases d with
    | dict es n => exact ⟨_, es, n, rfl, rfl⟩
    | _ => exact Bool.noConfusion h
theorem low_list {K : Frag} {h : Heap} {l : Addr} {mb : Str → Option Value} (X : K.In h) (hb : h.Ns builtinsNs mb) (h2 : ∃ o es n, K.lookup 2 = some o ∧ o.data = .dict es n) (h3 : ∃ o es n, K.lookup 3 = some o ∧ o.data = .dict es n)
    {vs : Array Value} {n : Nat} {o : Obj} (hl : h.get? l = some o) (hd : o.data = .seq vs n) (hs : (l == sysModules) = false) : 3 < l := by
  have n0 : l ≠ 0 := fun e => by
    subst e
    obtain ⟨o', es, ep, ho, hd', _⟩ := hb
    have ho : h.get? 0 = some o' := ho
    rw [hl] at ho; cases ho
    rw [hd] at hd'; cases hd'
  have n1 : l ≠ 1 := fun e => by subst e; exact absurd hs (by decide)
  have n2 : l ≠ 2 := fun e => by
    subst e
    obtain ⟨o', es, ep, ho, hd'⟩ := h2
    have ho := X _ _ ho
    rw [hl] at ho; cases ho
    rw [hd] at hd'; cases hd'
  have n3 : l ≠ 3 := fun e => by
    subst e
    obtain ⟨o', es, ep, ho, hd'⟩ := h3
    have ho := X _ _ ho
    rw [hl] at ho; cases ho
    rw [hd] at hd'; cases hd'
  clear hl hs
  exact match l, n0, n1, n2, n3 with
  | 0, h, _, _, _ => absurd rfl h
  | 1, _, h, _, _ => absurd rfl h
  | 2, _, _, h, _ => absurd rfl h
  | 3, _, _, _, h => absurd rfl h
  | k + 4, _, _, _, _ => Nat.le_add_left 4 k
end Mine
end

section
set_option genSizeOf false
set_option genInjectivity false
namespace Mine
noncomputable def stAt (p : Program) (i : Nat) : Stmt := p.main.body[i]?.getD (.Pass ⟨0, 0, 0, 0⟩)
noncomputable def clAt (s : Stmt) (j : Nat) : Stmt := match s with
  | .ClassDef _ _ _ b _ _ _ _ _ _ _ => b[j]?.getD (.Pass ⟨0, 0, 0, 0⟩)
  | _ => .Pass ⟨0, 0, 0, 0⟩
noncomputable def fnB (s : Stmt) : List Stmt := match s with
  | .FunctionDef _ _ b _ _ _ _ _ _ _ => b
  | _ => []
structure FnF (K : Frag) (f : Addr) (sc : Scope) (body : List Stmt) (ks : Kinds) : Prop where
  here : K.lookup f = some (objAt K f)
  data : (objAt K f).data = .func (fdAt K f)
  code : codeIn K (fdAt K f).code (fdAt K f).qualname = true
  bodyIs : (fdAt K f).body = .stmts body
  clo : (fdAt K f).closure = []
  glob : (fdAt K f).globals = mainGlobals
  blt : (fdAt K f).builtins = builtinsNs
  scope : (fdAt K f).scope = sc
theorem FnF.real {P : Prog} {W : Wd} {f : Addr} {fn : Fn} {sc : Scope} {body : List Stmt} {ks : Kinds} (F : FnF W.K f sc body ks) (h1 : sc.kind = .function) (h2 : sc.isCoroutine = false) (h3 : sc.isGenerator = false) (h4 : ksOk sc.names ks = true) (h5 : Uniq ks)
    (h6 : SB ⟨P, W, sc, ks⟩ fn.body body) (h7 : Binds W (fdAt W.K f) fn ks) : FnReal P W f fn (objAt W.K f) (fdAt W.K f) body ks := by
  obtain ⟨a1, a2, a3, a4, a5, a6, a7, rfl⟩ := F
  exact ⟨a1, a2, a3, a4, a5, a6, a7, h1, h2, h3, h4, h5, h6, h7⟩
section
variable {P : Prog} {K : Frag} {CN CT : Addr} {cN cT : Cls} {x : Str}
theorem at_slot {i : Nat} (hc : ∀ {C : Addr} {c : Cls}, P.cls C = some c → (C = CN ∧ c = cN) ∨ (C = CT ∧ c = cT)) (h1 : cN.slot = true) (h2 : cT.slot = false) (h3 : idxOf cN.attrs x = some i) (p : PlainAt K CT x) (s : SlotAt K CN x i) : AttrOk P K x := fun C c h => by
  rcases hc h with ⟨rfl, rfl⟩ | ⟨rfl, rfl⟩
  · exact ⟨fun q => Bool.noConfusion (h1.symm.trans q), fun _ j hj => (Option.some.inj (h3.symm.trans hj)) ▸ s⟩
  · exact ⟨fun _ => p, fun q => Bool.noConfusion (h2.symm.trans q)⟩
theorem at_plain (hc : ∀ {C : Addr} {c : Cls}, P.cls C = some c → (C = CN ∧ c = cN) ∨ (C = CT ∧ c = cT)) (h1 : cN.slot = true) (h2 : cT.slot = false) (h3 : idxOf cN.attrs x = none) (p : PlainAt K CT x) : AttrOk P K x := fun C c h => by
  rcases hc h with ⟨rfl, rfl⟩ | ⟨rfl, rfl⟩
  · exact ⟨fun q => Bool.noConfusion (h1.symm.trans q), fun _ j hj => nope (h3.symm.trans hj)⟩
  · exact ⟨fun _ => p, fun q => Bool.noConfusion (h2.symm.trans q)⟩
theorem mt_of {f : Addr} (hc : ∀ {C : Addr} {c : Cls}, P.cls C = some c → (C = CN ∧ c = cN) ∨ (C = CT ∧ c = cT)) (h1 : cN.meths = []) (h2 : cT.meths.lookup x = some f) (m : MethAt K CT x f) : MethsOk P K x := fun C c g h hf => by
  rcases hc h with ⟨rfl, rfl⟩ | ⟨rfl, rfl⟩
  · rw [h1] at hf; exact nope hf
  · exact (Option.some.inj (h2.symm.trans hf)) ▸ m
end
theorem vlen_cons {P : List Value → Prop} {n : Nat} (k : ∀ (a : Value) (xs : List Value), xs.length = n → P (a :: xs)) : ∀ xs : List Value, xs.length = n + 1 → P xs := by
  intro xs h
  cases xs with
  | nil => exact Nat.noConfusion h
  | cons a xs => exact k a xs (Nat.succ.inj h)
theorem vlen_nil {P : List Value → Prop} (k : P []) : ∀ xs : List Value, xs.length = 0 → P xs := by
  intro xs h
  cases xs with
  | nil => exact k
  | cons a xs => exact Nat.noConfusion h
theorem vtwo {P : List Value → Prop} (h0 : P []) (h1 : ∀ v, P [v]) (h2 : ∀ v v2 r, P (v :: v2 :: r)) : ∀ vs, P vs
  | [] => h0
  | [v] => h1 v
  | v :: v2 :: r => h2 v v2 r
end Mine
end

section
namespace Mine
namespace L2
noncomputable def b__NodeInfo___init__ : List CS := [.assign (.attr (.var 0) ⟨#[110, 111, 100, 101]⟩) (.var 1),
    .assign (.attr (.var 0) ⟨#[110, 112, 114, 101, 100, 101, 99, 101, 115, 115, 111, 114, 115]⟩) (.const (.int 0)),
    .assign (.attr (.var 0) ⟨#[115, 117, 99, 99, 101, 115, 115, 111, 114, 115]⟩) (.list [])]
noncomputable def f__NodeInfo___init__ : Fn := ⟨2, false, [], 3, b__NodeInfo___init__⟩
noncomputable def b_TopologicalSorter___init__ : List CS := [.assign (.attr (.var 0) ⟨#[95, 110, 111, 100, 101, 50, 105, 110, 102, 111]⟩) (.dict0 true),
    .assign (.attr (.var 0) ⟨#[95, 114, 101, 97, 100, 121, 95, 110, 111, 100, 101, 115]⟩) (.const .none),
    .assign (.attr (.var 0) ⟨#[95, 110, 112, 97, 115, 115, 101, 100, 111, 117, 116]⟩) (.const (.int 0)),
    .assign (.attr (.var 0) ⟨#[95, 110, 102, 105, 110, 105, 115, 104, 101, 100]⟩) (.const (.int 0)),
    .ite (.cmp .IsNot (.var 1) (.const .none)) [.never] []]
noncomputable def f_TopologicalSorter___init__ : Fn := ⟨2, false, [.none], 4, b_TopologicalSorter___init__⟩
noncomputable def b_TopologicalSorter__get_nodeinfo : List CS := [.ite (.cmp .Is (.walrus 2 (.meth .get (.attr (.var 0) ⟨#[95, 110, 111, 100, 101, 50, 105, 110, 102, 111]⟩) [.var 1])) (.const .none)) [.assign2 (.sub (.attr (.var 0) ⟨#[95, 110, 111, 100, 101, 50, 105, 110, 102, 111]⟩) (.var 1)) (.var 2) (.new 40 [.var 1])] [],
    .ret (.var 2)]
noncomputable def f_TopologicalSorter__get_nodeinfo : Fn := ⟨2, false, [], 3, b_TopologicalSorter__get_nodeinfo⟩
noncomputable def b_TopologicalSorter_add : List CS := [.ite (.cmp .IsNot (.attr (.var 0) ⟨#[95, 114, 101, 97, 100, 121, 95, 110, 111, 100, 101, 115]⟩) (.const .none)) [.never] [],
    .assign (.var 3) (.callm (.var 0) ⟨#[95, 103, 101, 116, 95, 110, 111, 100, 101, 105, 110, 102, 111]⟩ false [.var 1] none),
    .augattr (.var 3) ⟨#[110, 112, 114, 101, 100, 101, 99, 101, 115, 115, 111, 114, 115]⟩ .Add (.prim .len [.var 2]),
    .for (.var 4) (.plain (.var 2)) [.assign (.var 5) (.callm (.var 0) ⟨#[95, 103, 101, 116, 95, 110, 111, 100, 101, 105, 110, 102, 111]⟩ false [.var 4] none),
    .expr (.meth .append (.attr (.var 5) ⟨#[115, 117, 99, 99, 101, 115, 115, 111, 114, 115]⟩) [.var 1])] []]
noncomputable def f_TopologicalSorter_add : Fn := ⟨2, true, [], 6, b_TopologicalSorter_add⟩
noncomputable def b_TopologicalSorter_prepare : List CS := [.ite (.cmp .IsNot (.attr (.var 0) ⟨#[95, 114, 101, 97, 100, 121, 95, 110, 111, 100, 101, 115]⟩) (.const .none)) [.never] [],
    .assign (.attr (.var 0) ⟨#[95, 114, 101, 97, 100, 121, 95, 110, 111, 100, 101, 115]⟩) (.comp (.attr (.var 2) ⟨#[110, 111, 100, 101]⟩) [2] (.values (.attr (.var 0) ⟨#[95, 110, 111, 100, 101, 50, 105, 110, 102, 111]⟩)) [.cmp .Eq (.attr (.var 2) ⟨#[110, 112, 114, 101, 100, 101, 99, 101, 115, 115, 111, 114, 115]⟩) (.const (.int 0))]),
    .assign (.var 1) (.callm (.var 0) ⟨#[95, 102, 105, 110, 100, 95, 99, 121, 99, 108, 101]⟩ true [] none),
    .ite (.var 1) [.never] []]
noncomputable def f_TopologicalSorter_prepare : Fn := ⟨1, false, [], 3, b_TopologicalSorter_prepare⟩
noncomputable def b_TopologicalSorter_get_ready : List CS := [.ite (.cmp .Is (.attr (.var 0) ⟨#[95, 114, 101, 97, 100, 121, 95, 110, 111, 100, 101, 115]⟩) (.const .none)) [.never] [],
    .assign (.var 1) (.prim .tupleOf [.attr (.var 0) ⟨#[95, 114, 101, 97, 100, 121, 95, 110, 111, 100, 101, 115]⟩]),
    .assign (.var 2) (.attr (.var 0) ⟨#[95, 110, 111, 100, 101, 50, 105, 110, 102, 111]⟩),
    .for (.var 3) (.plain (.var 1)) [.assign (.attr (.sub (.var 2) (.var 3)) ⟨#[110, 112, 114, 101, 100, 101, 99, 101, 115, 115, 111, 114, 115]⟩) (.glob (.int (-1)))] [],
    .expr (.meth .clear (.attr (.var 0) ⟨#[95, 114, 101, 97, 100, 121, 95, 110, 111, 100, 101, 115]⟩) []),
    .augattr (.var 0) ⟨#[95, 110, 112, 97, 115, 115, 101, 100, 111, 117, 116]⟩ .Add (.prim .len [.var 1]),
    .ret (.var 1)]
noncomputable def f_TopologicalSorter_get_ready : Fn := ⟨1, false, [], 4, b_TopologicalSorter_get_ready⟩
noncomputable def b_TopologicalSorter_is_active : List CS := [.ite (.cmp .Is (.attr (.var 0) ⟨#[95, 114, 101, 97, 100, 121, 95, 110, 111, 100, 101, 115]⟩) (.const .none)) [.never] [],
    .ret (.or (.cmp .Lt (.attr (.var 0) ⟨#[95, 110, 102, 105, 110, 105, 115, 104, 101, 100]⟩) (.attr (.var 0) ⟨#[95, 110, 112, 97, 115, 115, 101, 100, 111, 117, 116]⟩)) (.prim .boolOf [.attr (.var 0) ⟨#[95, 114, 101, 97, 100, 121, 95, 110, 111, 100, 101, 115]⟩]))]
noncomputable def f_TopologicalSorter_is_active : Fn := ⟨1, false, [], 2, b_TopologicalSorter_is_active⟩
noncomputable def b_TopologicalSorter_done : List CS := [.ite (.cmp .Is (.attr (.var 0) ⟨#[95, 114, 101, 97, 100, 121, 95, 110, 111, 100, 101, 115]⟩) (.const .none)) [.never] [],
    .assign (.var 2) (.attr (.var 0) ⟨#[95, 110, 111, 100, 101, 50, 105, 110, 102, 111]⟩),
    .for (.var 3) (.plain (.var 1)) [.ite (.cmp .Is (.walrus 4 (.meth .get (.var 2) [.var 3])) (.const .none)) [.never] [],
    .assign (.var 5) (.attr (.var 4) ⟨#[110, 112, 114, 101, 100, 101, 99, 101, 115, 115, 111, 114, 115]⟩),
    .ite (.cmp .NotEq (.var 5) (.glob (.int (-1)))) [.ite (.cmp .GtE (.var 5) (.const (.int 0))) [.never] [.ite (.cmp .Eq (.var 5) (.glob (.int (-2)))) [.never] [.never]]] [],
    .assign (.attr (.var 4) ⟨#[110, 112, 114, 101, 100, 101, 99, 101, 115, 115, 111, 114, 115]⟩) (.glob (.int (-2))),
    .for (.var 6) (.plain (.attr (.var 4) ⟨#[115, 117, 99, 99, 101, 115, 115, 111, 114, 115]⟩)) [.assign (.var 7) (.sub (.var 2) (.var 6)),
    .augattr (.var 7) ⟨#[110, 112, 114, 101, 100, 101, 99, 101, 115, 115, 111, 114, 115]⟩ .Sub (.const (.int 1)),
    .ite (.cmp .Eq (.attr (.var 7) ⟨#[110, 112, 114, 101, 100, 101, 99, 101, 115, 115, 111, 114, 115]⟩) (.const (.int 0))) [.expr (.meth .append (.attr (.var 0) ⟨#[95, 114, 101, 97, 100, 121, 95, 110, 111, 100, 101, 115]⟩) [.var 6])] []] [],
    .augattr (.var 0) ⟨#[95, 110, 102, 105, 110, 105, 115, 104, 101, 100]⟩ .Add (.const (.int 1))] []]
noncomputable def f_TopologicalSorter_done : Fn := ⟨1, true, [], 8, b_TopologicalSorter_done⟩
noncomputable def b_TopologicalSorter__find_cycle : List CS := [.assign (.var 1) (.attr (.var 0) ⟨#[95, 110, 111, 100, 101, 50, 105, 110, 102, 111]⟩),
    .assign (.var 2) (.list []),
    .assign (.var 3) (.list []),
    .assign (.var 4) (.prim .setNew []),
    .assign (.var 5) (.dict0 true),
    .for (.var 6) (.plain (.var 1)) [.ite (.cmp .In (.var 6) (.var 4)) [.cont] [],
    .while (.const (.bool true)) [.ite (.cmp .In (.var 6) (.var 4)) [.ite (.cmp .In (.var 6) (.var 5)) [.ret (.bin .Add (.slice (.var 2) (some (.sub (.var 5) (.var 6))) none none) (.list [.var 6]))] []] [.expr (.meth .sadd (.var 4) [.var 6]),
    .expr (.meth .append (.var 3) [.prim .next [.prim .iterOf [.attr (.sub (.var 1) (.var 6)) ⟨#[115, 117, 99, 99, 101, 115, 115, 111, 114, 115]⟩]]]),
    .assign (.sub (.var 5) (.var 6)) (.prim .len [.var 2]),
    .expr (.meth .append (.var 2) [.var 6])],
    .while (.var 2) [.tryNext 6 (.sub (.var 3) (.neg (.const (.int 1)))) [.del (.var 5) (.meth .pop (.var 2) []),
    .expr (.meth .pop (.var 3) [])]] [.brk]] []] [],
    .ret (.const .none)]
noncomputable def f_TopologicalSorter__find_cycle : Fn := ⟨1, false, [], 7, b_TopologicalSorter__find_cycle⟩
noncomputable def b_pretty_flags : List CS := [.assign (.var 1) (.list []),
    .for (.var 2) (.range [.const (.int 32)]) [.assign (.var 3) (.bin .LShift (.const (.int 1)) (.var 2)),
    .ite (.bin .BitAnd (.var 0) (.var 3)) [.expr (.meth .append (.var 1) [.meth .getD (.glob (.ref 33)) [.var 3, .prim .hex [.var 3]]]),
    .aug 0 .BitXor (.var 3),
    .ite (.not (.var 0)) [.brk] []] []] [.expr (.meth .append (.var 1) [.prim .hex [.var 0]])],
    .ret (.meth .join (.const (.str ⟨#[44, 32]⟩)) [.var 1])]
noncomputable def f_pretty_flags : Fn := ⟨1, false, [], 4, b_pretty_flags⟩
noncomputable def b_S_IFMT : List CS := [.ret (.bin .BitAnd (.var 0) (.const (.int 61440)))]
noncomputable def f_S_IFMT : Fn := ⟨1, false, [], 2, b_S_IFMT⟩
noncomputable def b_filemode : List CS := [.assign (.var 1) (.list []),
    .for (.vars [2, 3]) (.enum (.glob (.ref 0))) [.for (.vars [4, 5]) (.plain (.var 3)) [.ite (.cmp .Eq (.var 2) (.const (.int 0))) [.ite (.cmp .Eq (.callf 156 true [.var 0]) (.var 4)) [.expr (.meth .append (.var 1) [.var 5]),
    .brk] []] [.ite (.cmp .Eq (.bin .BitAnd (.var 0) (.var 4)) (.var 4)) [.expr (.meth .append (.var 1) [.var 5]),
    .brk] []]] [.ite (.cmp .Eq (.var 2) (.const (.int 0))) [.expr (.meth .append (.var 1) [.const (.str ⟨#[63]⟩)])] [.expr (.meth .append (.var 1) [.const (.str ⟨#[45]⟩)])]]] [],
    .ret (.meth .join (.const (.str ⟨#[]⟩)) [.var 1])]
noncomputable def f_filemode : Fn := ⟨1, false, [], 6, b_filemode⟩
noncomputable def b__law_needs : List CS := [.assign (.var 0) (.meth .split (.callf 149 true [.const (.int 511)]) [.const (.str ⟨#[44, 32]⟩)]),
    .assign (.var 1) (.dict0 true),
    .for (.var 2) (.range [.const (.int 9)]) [.assign (.var 3) (.bin .Add (.bin .BitAnd (.bin .LShift (.const (.int 8)) (.var 2)) (.const (.int 511))) (.ite (.cmp .Lt (.bin .Mod (.var 2) (.const (.int 3))) (.const (.int 2))) (.bin .LShift (.const (.int 2)) (.var 2)) (.const (.int 0)))),
    .assign (.sub (.var 1) (.sub (.var 0) (.var 2))) (.ite (.cmp .Gt (.var 3) (.const (.int 0))) (.meth .split (.callf 149 true [.var 3]) [.const (.str ⟨#[44, 32]⟩)]) (.list []))] [],
    .ret (.tuple [.var 0, .var 1])]
noncomputable def f__law_needs : Fn := ⟨0, false, [], 4, b__law_needs⟩
noncomputable def b__law_course : List CS := [.assign (.var 3) (.new 137 []),
    .for (.var 4) (.plain (.var 0)) [.expr (.callm (.var 3) ⟨#[97, 100, 100]⟩ false [.var 4] (some (.sub (.var 1) (.var 4))))] [],
    .expr (.callm (.var 3) ⟨#[112, 114, 101, 112, 97, 114, 101]⟩ false [] none),
    .assign (.vars [5, 6]) (.tuple [.list [], .list []]),
    .while (.callm (.var 3) ⟨#[105, 115, 95, 97, 99, 116, 105, 118, 101]⟩ false [] none) [.aug 5 .Add (.prim .listOf [.callm (.var 3) ⟨#[103, 101, 116, 95, 114, 101, 97, 100, 121]⟩ false [] none]),
    .assign (.var 7) (.bin .Mod (.var 2) (.prim .len [.var 5])),
    .assign (.var 2) (.bin .FloorDiv (.var 2) (.prim .len [.var 5])),
    .expr (.meth .append (.var 6) [.meth .popAt (.var 5) [.var 7]]),
    .expr (.callm (.var 3) ⟨#[100, 111, 110, 101]⟩ false [.sub (.var 6) (.neg (.const (.int 1)))] none)] [],
    .ret (.var 6)]
noncomputable def f__law_course : Fn := ⟨3, false, [], 8, b__law_course⟩
noncomputable def b__law_slid : List CS := [.assign (.var 2) (.slice (.var 1) none none none),
    .for (.var 3) (.range [.const (.int 8), .const (.int 0), .neg (.const (.int 1))]) [.for (.var 4) (.range [.var 3]) [.assign (.vars [5, 6]) (.tuple [.sub (.var 2) (.var 4), .sub (.var 2) (.bin .Add (.var 4) (.const (.int 1)))]),
    .ite (.cmp .NotIn (.var 5) (.sub (.var 0) (.var 6))) [.assign (.subs (.var 2) (.var 4) (.var 2) (.bin .Add (.var 4) (.const (.int 1)))) (.tuple [.var 6, .var 5])] []] []] [],
    .ret (.var 2)]
noncomputable def f__law_slid : Fn := ⟨2, false, [], 7, b__law_slid⟩
noncomputable def b__law_rows : List CS := [.assign (.var 3) (.list [.callf 196 true [.var 2]]),
    .for (.var 4) (.plain (.var 1)) [.aug 2 .Add (.bin .LShift (.const (.int 1)) (.meth .index (.var 0) [.var 4])),
    .expr (.meth .append (.var 3) [.callf 196 true [.var 2]])] [],
    .ret (.var 3)]
noncomputable def f__law_rows : Fn := ⟨3, false, [], 5, b__law_rows⟩
noncomputable def b__law_own : List CS := [.assign (.var 3) (.list []),
    .for (.var 4) (.range [.const (.int 10)]) [.assign (.var 5) (.slice (.var 1) none (some (.var 4)) none),
    .assign (.var 6) (.comp (.ite (.cmp .In (.sub (.var 0) (.bin .Sub (.const (.int 8)) (.var 7))) (.var 5)) (.sub (.const (.str ⟨#[114, 119, 120, 114, 119, 120, 114, 119, 120]⟩)) (.var 7)) (.const (.str ⟨#[45]⟩))) [7] (.range [.const (.int 9)]) []),
    .expr (.meth .append (.var 3) [.bin .Add (.sub (.const (.str ⟨#[63, 112, 99, 63, 100, 63, 98, 63, 45, 63, 108, 63, 115, 63, 63, 63]⟩)) (.var 2)) (.meth .join (.const (.str ⟨#[]⟩)) [.var 6])])] [],
    .ret (.var 3)]
noncomputable def f__law_own : Fn := ⟨3, false, [], 8, b__law_own⟩
noncomputable def b__law_exchanged : List CS := [.ret (.bin .Add (.sub (.var 0) (.const (.int 0))) (.meth .join (.const (.str ⟨#[]⟩)) [.comp (.ite (.cmp .Eq (.sub (.var 0) (.bin .Sub (.const (.int 9)) (.var 1))) (.const (.str ⟨#[45]⟩))) (.sub (.const (.str ⟨#[114, 119, 120, 114, 119, 120, 114, 119, 120]⟩)) (.var 1)) (.const (.str ⟨#[45]⟩))) [1] (.range [.const (.int 9)]) []]))]
noncomputable def f__law_exchanged : Fn := ⟨1, false, [], 2, b__law_exchanged⟩
noncomputable def b_law : List CS := [.assign (.var 1) (.comp (.bin .Mod (.prim .int [.var 8]) (.bin .Pow (.const (.int 10)) (.const (.int 6)))) [8] (.plain (.slice (.var 0) none (some (.const (.int 12))) none)) []),
    .assign (.vars [2, 3]) (.callf 203 false []),
    .assign (.var 4) (.callf 210 true [.var 2, .var 3, .bin .Add (.const (.int 9)) (.prim .sum [.slice (.var 1) none none (some (.const (.int 2)))])]),
    .assign (.var 5) (.bin .Mod (.bin .Add (.const (.int 4)) (.prim .sum [.slice (.var 1) (some (.const (.int 1))) none (some (.const (.int 2)))])) (.const (.int 16))),
    .assign (.var 6) (.callf 224 true [.var 2, .var 4, .bin .Mult (.const (.int 4096)) (.var 5)]),
    .assign (.var 7) (.callf 224 true [.var 2, .callf 217 true [.var 3, .var 4], .bin .Mult (.const (.int 4096)) (.var 5)]),
    .ite (.cmp .NotEq (.var 6) (.callf 229 true [.var 2, .var 4, .var 5])) [.ret (.const (.bool false))] [],
    .ret (.cmp .Eq (.var 7) (.comp (.callf 234 true [.var 9]) [9] (.plain (.slice (.var 6) none none (some (.neg (.const (.int 1)))))) []))]
noncomputable def f_law : Fn := ⟨1, false, [], 10, b_law⟩
noncomputable def fns : List (Addr × Fn) := [(36, f__NodeInfo___init__), (73, f_TopologicalSorter___init__), (80, f_TopologicalSorter__get_nodeinfo), (87, f_TopologicalSorter_add), (92, f_TopologicalSorter_prepare), (99, f_TopologicalSorter_get_ready), (106, f_TopologicalSorter_is_active), (120, f_TopologicalSorter_done), (127, f_TopologicalSorter__find_cycle), (149, f_pretty_flags), (156, f_S_IFMT), (196, f_filemode), (203, f__law_needs), (210, f__law_course), (217, f__law_slid), (224, f__law_rows), (229, f__law_own), (234, f__law_exchanged), (239, f_law)]
noncomputable def cN : Cls := ⟨true, 36, [⟨#[110, 111, 100, 101]⟩, ⟨#[110, 112, 114, 101, 100, 101, 99, 101, 115, 115, 111, 114, 115]⟩, ⟨#[115, 117, 99, 99, 101, 115, 115, 111, 114, 115]⟩], []⟩
noncomputable def cT : Cls := ⟨false, 73, [], [(⟨#[95, 103, 101, 116, 95, 110, 111, 100, 101, 105, 110, 102, 111]⟩, 80), (⟨#[97, 100, 100]⟩, 87), (⟨#[112, 114, 101, 112, 97, 114, 101]⟩, 92), (⟨#[103, 101, 116, 95, 114, 101, 97, 100, 121]⟩, 99), (⟨#[105, 115, 95, 97, 99, 116, 105, 118, 101]⟩, 106), (⟨#[100, 111, 110, 101]⟩, 120), (⟨#[95, 102, 105, 110, 100, 95, 99, 121, 99, 108, 101]⟩, 127)]⟩
noncomputable def prog : Prog := ⟨fun a => fns.lookup a, fun a => if a = 40 then some cN else if a = 137 then some cT else none, 34⟩
noncomputable def top : List Addr := [189, 164, 166, 168, 172, 174, 176, 180, 182, 184, 188, 157, 158, 159, 160, 161, 162, 163, 165, 167, 169, 170, 171, 173, 175, 177, 178, 179, 181, 183, 185, 186, 187, 142]
noncomputable def heap0 : List CO := [.tuple [.ref 1, .ref 2, .ref 3, .ref 4, .ref 5, .ref 6, .ref 7, .ref 8, .ref 9, .ref 10],
  .tuple [.ref 11, .ref 12, .ref 13, .ref 14, .ref 15, .ref 16, .ref 17],
  .tuple [.ref 18],
  .tuple [.ref 19],
  .tuple [.ref 20, .ref 21, .ref 22],
  .tuple [.ref 23],
  .tuple [.ref 24],
  .tuple [.ref 25, .ref 26, .ref 27],
  .tuple [.ref 28],
  .tuple [.ref 29],
  .tuple [.ref 30, .ref 31, .ref 32],
  .tuple [.int 40960, .str ⟨#[108]⟩],
  .tuple [.int 49152, .str ⟨#[115]⟩],
  .tuple [.int 32768, .str ⟨#[45]⟩],
  .tuple [.int 24576, .str ⟨#[98]⟩],
  .tuple [.int 16384, .str ⟨#[100]⟩],
  .tuple [.int 8192, .str ⟨#[99]⟩],
  .tuple [.int 4096, .str ⟨#[112]⟩],
  .tuple [.int 256, .str ⟨#[114]⟩],
  .tuple [.int 128, .str ⟨#[119]⟩],
  .tuple [.int 2112, .str ⟨#[115]⟩],
  .tuple [.int 2048, .str ⟨#[83]⟩],
  .tuple [.int 64, .str ⟨#[120]⟩],
  .tuple [.int 32, .str ⟨#[114]⟩],
  .tuple [.int 16, .str ⟨#[119]⟩],
  .tuple [.int 1032, .str ⟨#[115]⟩],
  .tuple [.int 1024, .str ⟨#[83]⟩],
  .tuple [.int 8, .str ⟨#[120]⟩],
  .tuple [.int 4, .str ⟨#[114]⟩],
  .tuple [.int 2, .str ⟨#[119]⟩],
  .tuple [.int 513, .str ⟨#[116]⟩],
  .tuple [.int 512, .str ⟨#[84]⟩],
  .tuple [.int 1, .str ⟨#[120]⟩],
  .dictI [(1, .str ⟨#[79, 80, 84, 73, 77, 73, 90, 69, 68]⟩), (2, .str ⟨#[78, 69, 87, 76, 79, 67, 65, 76, 83]⟩), (4, .str ⟨#[86, 65, 82, 65, 82, 71, 83]⟩), (8, .str ⟨#[86, 65, 82, 75, 69, 89, 87, 79, 82, 68, 83]⟩), (16, .str ⟨#[78, 69, 83, 84, 69, 68]⟩), (32, .str ⟨#[71, 69, 78, 69, 82, 65, 84, 79, 82]⟩), (64, .str ⟨#[78, 79, 70, 82, 69, 69]⟩), (128, .str ⟨#[67, 79, 82, 79, 85, 84, 73, 78, 69]⟩), (256, .str ⟨#[73, 84, 69, 82, 65, 66, 76, 69, 95, 67, 79, 82, 79, 85, 84, 73, 78, 69]⟩), (512, .str ⟨#[65, 83, 89, 78, 67, 95, 71, 69, 78, 69, 82, 65, 84, 79, 82]⟩)] 10]
noncomputable def lawRuns (n : Nat) (script : List Int) : Option CV := ((run prog n).c 239 [.ref 34] ⟨[], heap0 ++ [.list (script.map .int)], 35, 60⟩).map (·.1)
end L2
end Mine
end

section
set_option maxHeartbeats 4000000
namespace Mine
namespace L2
noncomputable abbrev pw : Program := (PySem.Challenge.rw_om0128_02.row.toRowW).prog
noncomputable def ks__NodeInfo___init__ : Kinds := [((Str.ofString "self"), .loc), ((Str.ofString "node"), .loc)]
noncomputable abbrev st__NodeInfo___init__ : Stmt := clAt (stAt pw 4) 1
noncomputable def sc__NodeInfo___init__ : Scope := mkSc [nL "self", nL "node"] []
noncomputable def ks_TopologicalSorter___init__ : Kinds := [((Str.ofString "self"), .loc), ((Str.ofString "graph"), .loc), ((Str.ofString "node"), .loc), ((Str.ofString "predecessors"), .loc)]
noncomputable abbrev st_TopologicalSorter___init__ : Stmt := clAt (stAt pw 6) 0
noncomputable def sc_TopologicalSorter___init__ : Scope := mkSc [nL "self", nL "graph", nL "node", nL "predecessors"] []
noncomputable def ks_TopologicalSorter__get_nodeinfo : Kinds := [((Str.ofString "self"), .loc), ((Str.ofString "node"), .loc), ((Str.ofString "result"), .loc)]
noncomputable abbrev st_TopologicalSorter__get_nodeinfo : Stmt := clAt (stAt pw 6) 1
noncomputable def sc_TopologicalSorter__get_nodeinfo : Scope := mkSc [nL "self", nL "node", nL "result", nG "_NodeInfo"] []
noncomputable def ks_TopologicalSorter_add : Kinds := [((Str.ofString "self"), .loc), ((Str.ofString "node"), .loc), ((Str.ofString "predecessors"), .loc), ((Str.ofString "nodeinfo"), .loc), ((Str.ofString "pred"), .loc), ((Str.ofString "pred_info"), .loc)]
noncomputable abbrev st_TopologicalSorter_add : Stmt := clAt (stAt pw 6) 2
noncomputable def sc_TopologicalSorter_add : Scope := mkSc [nL "self", nL "node", nL "predecessors", nL "nodeinfo", nL "pred", nL "pred_info", nG "ValueError", nG "len"] []
noncomputable def ks_TopologicalSorter_prepare : Kinds := [((Str.ofString "self"), .loc), ((Str.ofString "cycle"), .loc), ((Str.ofString "i"), .out)]
noncomputable abbrev st_TopologicalSorter_prepare : Stmt := clAt (stAt pw 6) 3
noncomputable def sc_TopologicalSorter_prepare : Scope := mkSc [nL "self", nL "cycle", nG "ValueError", nG "CycleError"] ["self", "i", "cycle"]
noncomputable def ks_TopologicalSorter_get_ready : Kinds := [((Str.ofString "self"), .loc), ((Str.ofString "result"), .loc), ((Str.ofString "n2i"), .loc), ((Str.ofString "node"), .loc)]
noncomputable abbrev st_TopologicalSorter_get_ready : Stmt := clAt (stAt pw 6) 4
noncomputable def sc_TopologicalSorter_get_ready : Scope := mkSc [nL "self", nL "result", nL "n2i", nL "node", nG "ValueError", nG "tuple", nG "_NODE_OUT", nG "len"] []
noncomputable def ks_TopologicalSorter_is_active : Kinds := [((Str.ofString "self"), .loc)]
noncomputable abbrev st_TopologicalSorter_is_active : Stmt := clAt (stAt pw 6) 5
noncomputable def sc_TopologicalSorter_is_active : Scope := mkSc [nL "self", nG "ValueError", nG "bool"] []
noncomputable def ks_TopologicalSorter_done : Kinds := [((Str.ofString "self"), .loc), ((Str.ofString "nodes"), .loc), ((Str.ofString "n2i"), .loc), ((Str.ofString "node"), .loc), ((Str.ofString "nodeinfo"), .loc), ((Str.ofString "stat"), .loc), ((Str.ofString "successor"), .loc), ((Str.ofString "successor_info"), .loc)]
noncomputable abbrev st_TopologicalSorter_done : Stmt := clAt (stAt pw 6) 7
noncomputable def sc_TopologicalSorter_done : Scope := mkSc [nL "self", nL "nodes", nL "n2i", nL "node", nL "nodeinfo", nL "stat", nL "successor", nL "successor_info", nG "ValueError", nG "_NODE_OUT", nG "_NODE_DONE"] []
noncomputable def ks_TopologicalSorter__find_cycle : Kinds := [((Str.ofString "self"), .loc), ((Str.ofString "n2i"), .loc), ((Str.ofString "stack"), .loc), ((Str.ofString "itstack"), .loc), ((Str.ofString "seen"), .loc), ((Str.ofString "node2stacki"), .loc), ((Str.ofString "node"), .loc)]
noncomputable abbrev st_TopologicalSorter__find_cycle : Stmt := clAt (stAt pw 6) 8
noncomputable def sc_TopologicalSorter__find_cycle : Scope := mkSc [nL "self", nL "n2i", nL "stack", nL "itstack", nL "seen", nL "node2stacki", nL "node", nG "set", nG "iter", nG "len", nG "StopIteration"] []
noncomputable def ks_pretty_flags : Kinds := [((Str.ofString "flags"), .loc), ((Str.ofString "names"), .loc), ((Str.ofString "i"), .loc), ((Str.ofString "flag"), .loc)]
noncomputable abbrev st_pretty_flags : Stmt := stAt pw 9
noncomputable def sc_pretty_flags : Scope := mkSc [nL "flags", nL "names", nL "i", nL "flag", nG "range", nG "COMPILER_FLAG_NAMES", nG "hex"] []
noncomputable def ks_S_IFMT : Kinds := [((Str.ofString "mode"), .loc)]
noncomputable abbrev st_S_IFMT : Stmt := stAt pw 11
noncomputable def sc_S_IFMT : Scope := mkSc [nL "mode"] []
noncomputable def ks_filemode : Kinds := [((Str.ofString "mode"), .loc), ((Str.ofString "perm"), .loc), ((Str.ofString "index"), .loc), ((Str.ofString "table"), .loc), ((Str.ofString "bit"), .loc), ((Str.ofString "char"), .loc)]
noncomputable abbrev st_filemode : Stmt := stAt pw 32
noncomputable def sc_filemode : Scope := mkSc [nL "mode", nL "perm", nL "index", nL "table", nL "bit", nL "char", nG "enumerate", nG "_filemode_table", nG "S_IFMT"] []
noncomputable def ks__law_needs : Kinds := [((Str.ofString "names"), .loc), ((Str.ofString "needs"), .loc), ((Str.ofString "place"), .loc), ((Str.ofString "under"), .loc)]
noncomputable abbrev st__law_needs : Stmt := stAt pw 34
noncomputable def sc__law_needs : Scope := mkSc [nL "names", nL "needs", nL "place", nL "under", nG "pretty_flags", nG "range"] []
noncomputable def ks__law_course : Kinds := [((Str.ofString "names"), .loc), ((Str.ofString "needs"), .loc), ((Str.ofString "code"), .loc), ((Str.ofString "sorter"), .loc), ((Str.ofString "name"), .loc), ((Str.ofString "waiting"), .loc), ((Str.ofString "course"), .loc), ((Str.ofString "at"), .loc)]
noncomputable abbrev st__law_course : Stmt := stAt pw 35
noncomputable def sc__law_course : Scope := mkSc [nL "names", nL "needs", nL "code", nL "sorter", nL "name", nL "waiting", nL "course", nL "at", nG "TopologicalSorter", nG "list", nG "len"] []
noncomputable def ks__law_slid : Kinds := [((Str.ofString "needs"), .loc), ((Str.ofString "course"), .loc), ((Str.ofString "row"), .loc), ((Str.ofString "last"), .loc), ((Str.ofString "k"), .loc), ((Str.ofString "one"), .loc), ((Str.ofString "two"), .loc)]
noncomputable abbrev st__law_slid : Stmt := stAt pw 36
noncomputable def sc__law_slid : Scope := mkSc [nL "needs", nL "course", nL "row", nL "last", nL "k", nL "one", nL "two", nG "range"] []
noncomputable def ks__law_rows : Kinds := [((Str.ofString "names"), .loc), ((Str.ofString "course"), .loc), ((Str.ofString "mode"), .loc), ((Str.ofString "rows"), .loc), ((Str.ofString "name"), .loc)]
noncomputable abbrev st__law_rows : Stmt := stAt pw 37
noncomputable def sc__law_rows : Scope := mkSc [nL "names", nL "course", nL "mode", nL "rows", nL "name", nG "filemode"] []
noncomputable def ks__law_own : Kinds := [((Str.ofString "names"), .cell), ((Str.ofString "course"), .loc), ((Str.ofString "kind"), .loc), ((Str.ofString "rows"), .loc), ((Str.ofString "given"), .loc), ((Str.ofString "there"), .cell), ((Str.ofString "signs"), .loc), ((Str.ofString "k"), .out)]
noncomputable abbrev st__law_own : Stmt := stAt pw 38
noncomputable def sc__law_own : Scope := mkSc [nC "names", nL "course", nL "kind", nL "rows", nL "given", nC "there", nL "signs", nG "range"] ["names", "course", "kind", "rows", "given", "there", "k", "signs"]
noncomputable def ks__law_exchanged : Kinds := [((Str.ofString "row"), .cell), ((Str.ofString "k"), .out)]
noncomputable abbrev st__law_exchanged : Stmt := stAt pw 39
noncomputable def sc__law_exchanged : Scope := mkSc [nC "row", nG "range"] ["row", "k"]
noncomputable def ks_law : Kinds := [((Str.ofString "script"), .loc), ((Str.ofString "drawn"), .loc), ((Str.ofString "names"), .loc), ((Str.ofString "needs"), .loc), ((Str.ofString "course"), .loc), ((Str.ofString "kind"), .loc), ((Str.ofString "first"), .loc), ((Str.ofString "slid"), .loc), ((Str.ofString "cell"), .out), ((Str.ofString "row"), .out)]
noncomputable abbrev st_law : Stmt := stAt pw 40
noncomputable def sc_law : Scope := mkSc [nL "script", nL "drawn", nL "names", nL "needs", nL "course", nL "kind", nL "first", nL "slid", nG "_law_needs", nG "_law_course", nG "sum", nG "_law_rows", nG "_law_slid", nG "_law_own"] ["script", "cell", "drawn", "names", "needs", "course", "kind", "first", "slid", "row"]
structure KF (K : World → Frag) : Prop where
  g_COMPILER_FLAG_NAMES : ∀ w, nsIn (K w) mainGlobals (Str.ofString "COMPILER_FLAG_NAMES") = some (some (.ref 142))
  g__NODE_DONE : ∀ w, nsIn (K w) mainGlobals (Str.ofString "_NODE_DONE") = some (some (.int (-2) 200))
  g__NODE_OUT : ∀ w, nsIn (K w) mainGlobals (Str.ofString "_NODE_OUT") = some (some (.int (-1) 197))
  g__filemode_table : ∀ w, nsIn (K w) mainGlobals (Str.ofString "_filemode_table") = some (some (.ref 189))
  gb_StopIteration : ∀ w, nsIn (K w) mainGlobals (Str.ofString "StopIteration") = some none
  gb_bool : ∀ w, nsIn (K w) mainGlobals (Str.ofString "bool") = some none
  gb_enumerate : ∀ w, nsIn (K w) mainGlobals (Str.ofString "enumerate") = some none
  gb_hex : ∀ w, nsIn (K w) mainGlobals (Str.ofString "hex") = some none
  gb_int : ∀ w, nsIn (K w) mainGlobals (Str.ofString "int") = some none
  gb_iter : ∀ w, nsIn (K w) mainGlobals (Str.ofString "iter") = some none
  gb_len : ∀ w, nsIn (K w) mainGlobals (Str.ofString "len") = some none
  gb_list : ∀ w, nsIn (K w) mainGlobals (Str.ofString "list") = some none
  gb_range : ∀ w, nsIn (K w) mainGlobals (Str.ofString "range") = some none
  gb_set : ∀ w, nsIn (K w) mainGlobals (Str.ofString "set") = some none
  gb_sum : ∀ w, nsIn (K w) mainGlobals (Str.ofString "sum") = some none
  gb_tuple : ∀ w, nsIn (K w) mainGlobals (Str.ofString "tuple") = some none
  g_S_IFMT : ∀ w, nsIn (K w) mainGlobals (Str.ofString "S_IFMT") = some (some (.ref 156))
  g_TopologicalSorter : ∀ w, nsIn (K w) mainGlobals (Str.ofString "TopologicalSorter") = some (some (.ref 137))
  g__NodeInfo : ∀ w, nsIn (K w) mainGlobals (Str.ofString "_NodeInfo") = some (some (.ref 40))
  g__law_course : ∀ w, nsIn (K w) mainGlobals (Str.ofString "_law_course") = some (some (.ref 210))
  g__law_exchanged : ∀ w, nsIn (K w) mainGlobals (Str.ofString "_law_exchanged") = some (some (.ref 234))
  g__law_needs : ∀ w, nsIn (K w) mainGlobals (Str.ofString "_law_needs") = some (some (.ref 203))
  g__law_own : ∀ w, nsIn (K w) mainGlobals (Str.ofString "_law_own") = some (some (.ref 229))
  g__law_rows : ∀ w, nsIn (K w) mainGlobals (Str.ofString "_law_rows") = some (some (.ref 224))
  g__law_slid : ∀ w, nsIn (K w) mainGlobals (Str.ofString "_law_slid") = some (some (.ref 217))
  g_filemode : ∀ w, nsIn (K w) mainGlobals (Str.ofString "filemode") = some (some (.ref 196))
  g_pretty_flags : ∀ w, nsIn (K w) mainGlobals (Str.ofString "pretty_flags") = some (some (.ref 149))
  k_S_IFMT : ∀ w, keepIn (K w) (.ref 156) = true
  k__law_course : ∀ w, keepIn (K w) (.ref 210) = true
  k__law_exchanged : ∀ w, keepIn (K w) (.ref 234) = true
  k__law_needs : ∀ w, keepIn (K w) (.ref 203) = true
  k__law_own : ∀ w, keepIn (K w) (.ref 229) = true
  k__law_rows : ∀ w, keepIn (K w) (.ref 224) = true
  k__law_slid : ∀ w, keepIn (K w) (.ref 217) = true
  k_filemode : ∀ w, keepIn (K w) (.ref 196) = true
  k_pretty_flags : ∀ w, keepIn (K w) (.ref 149) = true
  new_TopologicalSorter : ∀ w, NewOk (K w) 137 cT
  new__NodeInfo : ∀ w, NewOk (K w) 40 cN
  pa__nfinished : ∀ w, PlainAt (K w) 137 ⟨#[95, 110, 102, 105, 110, 105, 115, 104, 101, 100]⟩
  pa__node2info : ∀ w, PlainAt (K w) 137 ⟨#[95, 110, 111, 100, 101, 50, 105, 110, 102, 111]⟩
  pa__npassedout : ∀ w, PlainAt (K w) 137 ⟨#[95, 110, 112, 97, 115, 115, 101, 100, 111, 117, 116]⟩
  pa__ready_nodes : ∀ w, PlainAt (K w) 137 ⟨#[95, 114, 101, 97, 100, 121, 95, 110, 111, 100, 101, 115]⟩
  pa_node : ∀ w, PlainAt (K w) 137 ⟨#[110, 111, 100, 101]⟩
  sa_node : ∀ w, SlotAt (K w) 40 ⟨#[110, 111, 100, 101]⟩ 0
  pa_npredecessors : ∀ w, PlainAt (K w) 137 ⟨#[110, 112, 114, 101, 100, 101, 99, 101, 115, 115, 111, 114, 115]⟩
  sa_npredecessors : ∀ w, SlotAt (K w) 40 ⟨#[110, 112, 114, 101, 100, 101, 99, 101, 115, 115, 111, 114, 115]⟩ 1
  pa_successors : ∀ w, PlainAt (K w) 137 ⟨#[115, 117, 99, 99, 101, 115, 115, 111, 114, 115]⟩
  sa_successors : ∀ w, SlotAt (K w) 40 ⟨#[115, 117, 99, 99, 101, 115, 115, 111, 114, 115]⟩ 2
  ma__find_cycle : ∀ w, MethAt (K w) 137 ⟨#[95, 102, 105, 110, 100, 95, 99, 121, 99, 108, 101]⟩ 127
  ma__get_nodeinfo : ∀ w, MethAt (K w) 137 ⟨#[95, 103, 101, 116, 95, 110, 111, 100, 101, 105, 110, 102, 111]⟩ 80
  ma_add : ∀ w, MethAt (K w) 137 ⟨#[97, 100, 100]⟩ 87
  ma_done : ∀ w, MethAt (K w) 137 ⟨#[100, 111, 110, 101]⟩ 120
  ma_get_ready : ∀ w, MethAt (K w) 137 ⟨#[103, 101, 116, 95, 114, 101, 97, 100, 121]⟩ 99
  ma_is_active : ∀ w, MethAt (K w) 137 ⟨#[105, 115, 95, 97, 99, 116, 105, 118, 101]⟩ 106
  ma_prepare : ∀ w, MethAt (K w) 137 ⟨#[112, 114, 101, 112, 97, 114, 101]⟩ 92
  fn__NodeInfo___init__ : ∀ w, FnF (K w) 36 sc__NodeInfo___init__ (fnB st__NodeInfo___init__) ks__NodeInfo___init__
  bd__NodeInfo___init__ : ∀ (w : World) (us : List Value), us.length = 2 → bindArgs (fdAt (K w) 36) ⟨us, []⟩ = pure ([(Str.ofString "self"), (Str.ofString "node")].zip us)
  fn_TopologicalSorter___init__ : ∀ w, FnF (K w) 73 sc_TopologicalSorter___init__ (fnB st_TopologicalSorter___init__) ks_TopologicalSorter___init__
  bd_TopologicalSorter___init__ : ∀ (w : World) (u : Value) (s : Shared), (K w).In s.heap → BindsTo s (fdAt (K w) 73) ⟨[u], []⟩ [((Str.ofString "self"), u), ((Str.ofString "graph"), .none)]
  bd2_TopologicalSorter___init__ : ∀ (w : World) (u v : Value) (s : Shared), (K w).In s.heap → BindsTo s (fdAt (K w) 73) ⟨[u, v], []⟩ [((Str.ofString "self"), u), ((Str.ofString "graph"), v)]
  fn_TopologicalSorter__get_nodeinfo : ∀ w, FnF (K w) 80 sc_TopologicalSorter__get_nodeinfo (fnB st_TopologicalSorter__get_nodeinfo) ks_TopologicalSorter__get_nodeinfo
  bd_TopologicalSorter__get_nodeinfo : ∀ (w : World) (us : List Value), us.length = 2 → bindArgs (fdAt (K w) 80) ⟨us, []⟩ = pure ([(Str.ofString "self"), (Str.ofString "node")].zip us)
  fn_TopologicalSorter_add : ∀ w, FnF (K w) 87 sc_TopologicalSorter_add (fnB st_TopologicalSorter_add) ks_TopologicalSorter_add
  bd_TopologicalSorter_add : ∀ (w : World) (us : List Value), us.length = 2 → ∀ vs : List Value, bindArgs (fdAt (K w) 87) ⟨us ++ vs, []⟩ = (do let t ← newTuple vs; pure ([(Str.ofString "self"), (Str.ofString "node")].zip us ++ [((Str.ofString "predecessors"), t)]))
  fn_TopologicalSorter_prepare : ∀ w, FnF (K w) 92 sc_TopologicalSorter_prepare (fnB st_TopologicalSorter_prepare) ks_TopologicalSorter_prepare
  bd_TopologicalSorter_prepare : ∀ (w : World) (us : List Value), us.length = 1 → bindArgs (fdAt (K w) 92) ⟨us, []⟩ = pure ([(Str.ofString "self")].zip us)
  fn_TopologicalSorter_get_ready : ∀ w, FnF (K w) 99 sc_TopologicalSorter_get_ready (fnB st_TopologicalSorter_get_ready) ks_TopologicalSorter_get_ready
  bd_TopologicalSorter_get_ready : ∀ (w : World) (us : List Value), us.length = 1 → bindArgs (fdAt (K w) 99) ⟨us, []⟩ = pure ([(Str.ofString "self")].zip us)
  fn_TopologicalSorter_is_active : ∀ w, FnF (K w) 106 sc_TopologicalSorter_is_active (fnB st_TopologicalSorter_is_active) ks_TopologicalSorter_is_active
  bd_TopologicalSorter_is_active : ∀ (w : World) (us : List Value), us.length = 1 → bindArgs (fdAt (K w) 106) ⟨us, []⟩ = pure ([(Str.ofString "self")].zip us)
  fn_TopologicalSorter_done : ∀ w, FnF (K w) 120 sc_TopologicalSorter_done (fnB st_TopologicalSorter_done) ks_TopologicalSorter_done
  bd_TopologicalSorter_done : ∀ (w : World) (us : List Value), us.length = 1 → ∀ vs : List Value, bindArgs (fdAt (K w) 120) ⟨us ++ vs, []⟩ = (do let t ← newTuple vs; pure ([(Str.ofString "self")].zip us ++ [((Str.ofString "nodes"), t)]))
  fn_TopologicalSorter__find_cycle : ∀ w, FnF (K w) 127 sc_TopologicalSorter__find_cycle (fnB st_TopologicalSorter__find_cycle) ks_TopologicalSorter__find_cycle
  bd_TopologicalSorter__find_cycle : ∀ (w : World) (us : List Value), us.length = 1 → bindArgs (fdAt (K w) 127) ⟨us, []⟩ = pure ([(Str.ofString "self")].zip us)
  fn_pretty_flags : ∀ w, FnF (K w) 149 sc_pretty_flags (fnB st_pretty_flags) ks_pretty_flags
  bd_pretty_flags : ∀ (w : World) (us : List Value), us.length = 1 → bindArgs (fdAt (K w) 149) ⟨us, []⟩ = pure ([(Str.ofString "flags")].zip us)
  fn_S_IFMT : ∀ w, FnF (K w) 156 sc_S_IFMT (fnB st_S_IFMT) ks_S_IFMT
  bd_S_IFMT : ∀ (w : World) (us : List Value), us.length = 1 → bindArgs (fdAt (K w) 156) ⟨us, []⟩ = pure ([(Str.ofString "mode")].zip us)
  fn_filemode : ∀ w, FnF (K w) 196 sc_filemode (fnB st_filemode) ks_filemode
  bd_filemode : ∀ (w : World) (us : List Value), us.length = 1 → bindArgs (fdAt (K w) 196) ⟨us, []⟩ = pure ([(Str.ofString "mode")].zip us)
  fn__law_needs : ∀ w, FnF (K w) 203 sc__law_needs (fnB st__law_needs) ks__law_needs
  bd__law_needs : ∀ (w : World) (us : List Value), us.length = 0 → bindArgs (fdAt (K w) 203) ⟨us, []⟩ = pure ([].zip us)
  fn__law_course : ∀ w, FnF (K w) 210 sc__law_course (fnB st__law_course) ks__law_course
  bd__law_course : ∀ (w : World) (us : List Value), us.length = 3 → bindArgs (fdAt (K w) 210) ⟨us, []⟩ = pure ([(Str.ofString "names"), (Str.ofString "needs"), (Str.ofString "code")].zip us)
  fn__law_slid : ∀ w, FnF (K w) 217 sc__law_slid (fnB st__law_slid) ks__law_slid
  bd__law_slid : ∀ (w : World) (us : List Value), us.length = 2 → bindArgs (fdAt (K w) 217) ⟨us, []⟩ = pure ([(Str.ofString "needs"), (Str.ofString "course")].zip us)
  fn__law_rows : ∀ w, FnF (K w) 224 sc__law_rows (fnB st__law_rows) ks__law_rows
  bd__law_rows : ∀ (w : World) (us : List Value), us.length = 3 → bindArgs (fdAt (K w) 224) ⟨us, []⟩ = pure ([(Str.ofString "names"), (Str.ofString "course"), (Str.ofString "mode")].zip us)
  fn__law_own : ∀ w, FnF (K w) 229 sc__law_own (fnB st__law_own) ks__law_own
  bd__law_own : ∀ (w : World) (us : List Value), us.length = 3 → bindArgs (fdAt (K w) 229) ⟨us, []⟩ = pure ([(Str.ofString "names"), (Str.ofString "course"), (Str.ofString "kind")].zip us)
  fn__law_exchanged : ∀ w, FnF (K w) 234 sc__law_exchanged (fnB st__law_exchanged) ks__law_exchanged
  bd__law_exchanged : ∀ (w : World) (us : List Value), us.length = 1 → bindArgs (fdAt (K w) 234) ⟨us, []⟩ = pure ([(Str.ofString "row")].zip us)
  fn_law : ∀ w, FnF (K w) 239 sc_law (fnB st_law) ks_law
  bd_law : ∀ (w : World) (us : List Value), us.length = 1 → bindArgs (fdAt (K w) 239) ⟨us, []⟩ = pure ([(Str.ofString "script")].zip us)
  tops : ∀ w, osOk (K w) top heap0 top = true
  stat : ∀ w, (K w).lookup cStatics = some { cls := .none, data := .dict #[] }
  lawb : ∀ w (u : Value), bindArgs (fdAt (K w) 239) ⟨[u], []⟩ = pure [((Str.ofString "script"), u)]
  law : ∀ w, nsIn (K w) mainGlobals (Str.ofString "law") = some (some (.ref 239))
  d2 : ∀ w, isDictAt (K w) 2 = true
  d3 : ∀ w, isDictAt (K w) 3 = true
noncomputable abbrev W (K : World → Frag) (w : World) : Wd := ⟨pw, w, K w, top⟩
section
variable {K : World → Frag}
theorem cls_cases {C : Addr} {c : Cls} (h : prog.cls C = some c) : (C = 40 ∧ c = cN) ∨ (C = 137 ∧ c = cT) := by
  by_cases q : C = 40
  · subst q; cases h; exact .inl ⟨rfl, rfl⟩
  · by_cases q2 : C = 137
    · subst q2; cases h; exact .inr ⟨rfl, rfl⟩
    · exfalso
      have h : (if C = 40 then some cN else if C = 137 then some cT else none) = some c := h
      rw [if_neg q, if_neg q2] at h; cases h
theorem KF.at__nfinished (F : KF K) (w : World) : AttrOk prog (K w) ⟨#[95, 110, 102, 105, 110, 105, 115, 104, 101, 100]⟩ := at_plain cls_cases rfl rfl (by decide) (F.pa__nfinished w)
theorem KF.at__node2info (F : KF K) (w : World) : AttrOk prog (K w) ⟨#[95, 110, 111, 100, 101, 50, 105, 110, 102, 111]⟩ := at_plain cls_cases rfl rfl (by decide) (F.pa__node2info w)
theorem KF.at__npassedout (F : KF K) (w : World) : AttrOk prog (K w) ⟨#[95, 110, 112, 97, 115, 115, 101, 100, 111, 117, 116]⟩ := at_plain cls_cases rfl rfl (by decide) (F.pa__npassedout w)
theorem KF.at__ready_nodes (F : KF K) (w : World) : AttrOk prog (K w) ⟨#[95, 114, 101, 97, 100, 121, 95, 110, 111, 100, 101, 115]⟩ := at_plain cls_cases rfl rfl (by decide) (F.pa__ready_nodes w)
theorem KF.at_node (F : KF K) (w : World) : AttrOk prog (K w) ⟨#[110, 111, 100, 101]⟩ := at_slot cls_cases rfl rfl (by decide) (F.pa_node w) (F.sa_node w)
theorem KF.at_npredecessors (F : KF K) (w : World) : AttrOk prog (K w) ⟨#[110, 112, 114, 101, 100, 101, 99, 101, 115, 115, 111, 114, 115]⟩ := at_slot cls_cases rfl rfl (by decide) (F.pa_npredecessors w) (F.sa_npredecessors w)
theorem KF.at_successors (F : KF K) (w : World) : AttrOk prog (K w) ⟨#[115, 117, 99, 99, 101, 115, 115, 111, 114, 115]⟩ := at_slot cls_cases rfl rfl (by decide) (F.pa_successors w) (F.sa_successors w)
theorem KF.mt__find_cycle (F : KF K) (w : World) : MethsOk prog (K w) ⟨#[95, 102, 105, 110, 100, 95, 99, 121, 99, 108, 101]⟩ := mt_of cls_cases rfl (by decide) (F.ma__find_cycle w)
theorem KF.mt__get_nodeinfo (F : KF K) (w : World) : MethsOk prog (K w) ⟨#[95, 103, 101, 116, 95, 110, 111, 100, 101, 105, 110, 102, 111]⟩ := mt_of cls_cases rfl (by decide) (F.ma__get_nodeinfo w)
theorem KF.mt_add (F : KF K) (w : World) : MethsOk prog (K w) ⟨#[97, 100, 100]⟩ := mt_of cls_cases rfl (by decide) (F.ma_add w)
theorem KF.mt_done (F : KF K) (w : World) : MethsOk prog (K w) ⟨#[100, 111, 110, 101]⟩ := mt_of cls_cases rfl (by decide) (F.ma_done w)
theorem KF.mt_get_ready (F : KF K) (w : World) : MethsOk prog (K w) ⟨#[103, 101, 116, 95, 114, 101, 97, 100, 121]⟩ := mt_of cls_cases rfl (by decide) (F.ma_get_ready w)
theorem KF.mt_is_active (F : KF K) (w : World) : MethsOk prog (K w) ⟨#[105, 115, 95, 97, 99, 116, 105, 118, 101]⟩ := mt_of cls_cases rfl (by decide) (F.ma_is_active w)
theorem KF.mt_prepare (F : KF K) (w : World) : MethsOk prog (K w) ⟨#[112, 114, 101, 112, 97, 114, 101]⟩ := mt_of cls_cases rfl (by decide) (F.ma_prepare w)
end
end L2
end Mine
end

section
set_option maxHeartbeats 4000000
namespace Mine
namespace L2
section
variable {K : World → Frag}
theorem s__NodeInfo___init__ (F : KF K) (w : World) : SB ⟨prog, W K w, sc__NodeInfo___init__, ks__NodeInfo___init__⟩ b__NodeInfo___init__ (fnB st__NodeInfo___init__) :=
  by
  refine @SB.cons _ _ _ _ _ ?_ ?_
  · exact SS.assignT (SA.attr2 (by decide +kernel) (F.at_node w) (SE.var rfl)) (SE.var rfl) (hw := fun _ _ => rfl)
  refine @SB.cons _ _ _ _ _ ?_ ?_
  · exact SS.assignT (SA.attr2 (by decide +kernel) (F.at_npredecessors w) (SE.var rfl)) (SE.int) (hw := fun _ _ => rfl)
  refine @SB.cons _ _ _ _ _ ?_ ?_
  · exact SS.assignT (SA.attr2 (by decide +kernel) (F.at_successors w) (SE.var rfl)) (SE.list (SEs.nil)) (hw := fun _ _ => rfl)
  exact SB.nil
theorem r__NodeInfo___init__ (F : KF K) (w : World) : FnReal prog (W K w) 36 f__NodeInfo___init__ (objAt (K w) 36) (fdAt (K w) 36) (fnB st__NodeInfo___init__) ks__NodeInfo___init__ := (F.fn__NodeInfo___init__ w).real rfl rfl rfl (by kernel_rfl) (uniq_of (by decide +kernel)) (by refine @s__NodeInfo___init__ K F w) (Binds.plain (xs := [(Str.ofString "self"), (Str.ofString "node")]) rfl rfl rfl (by decide +kernel) (by decide +kernel) (F.bd__NodeInfo___init__ w))
end
end L2
end Mine
end

section
set_option maxHeartbeats 4000000
namespace Mine
namespace L2
section
variable {K : World → Frag}
theorem s_TopologicalSorter___init__ (F : KF K) (w : World) : SB ⟨prog, W K w, sc_TopologicalSorter___init__, ks_TopologicalSorter___init__⟩ b_TopologicalSorter___init__ (fnB st_TopologicalSorter___init__) :=
  by
  refine @SB.cons _ _ _ _ _ ?_ ?_
  · exact SS.assignT (SA.attr2 (by decide +kernel) (F.at__node2info w) (SE.var rfl)) (SE.dict0) (hw := fun _ _ => rfl)
  refine @SB.cons _ _ _ _ _ ?_ ?_
  · exact SS.assignT (SA.attr2 (by decide +kernel) (F.at__ready_nodes w) (SE.var rfl)) (SE.nne) (hw := fun _ _ => rfl)
  refine @SB.cons _ _ _ _ _ ?_ ?_
  · exact SS.assignT (SA.attr2 (by decide +kernel) (F.at__npassedout w) (SE.var rfl)) (SE.int) (hw := fun _ _ => rfl)
  refine @SB.cons _ _ _ _ _ ?_ ?_
  · exact SS.assignT (SA.attr2 (by decide +kernel) (F.at__nfinished w) (SE.var rfl)) (SE.int) (hw := fun _ _ => rfl)
  refine @SB.cons _ _ _ _ _ ?_ ?_
  · exact SS.ite (STt.cmp (SE.var rfl) (SE.nne) rfl) (SB.cons (SS.never)
    (SB.nil)) (SB.nil)
  exact SB.nil
theorem r_TopologicalSorter___init__ (F : KF K) (w : World) : FnReal prog (W K w) 73 f_TopologicalSorter___init__ (objAt (K w) 73) (fdAt (K w) 73) (fnB st_TopologicalSorter___init__) ks_TopologicalSorter___init__ := (F.fn_TopologicalSorter___init__ w).real rfl rfl rfl (by kernel_rfl) (uniq_of (by decide +kernel)) (by refine @s_TopologicalSorter___init__ K F w) (Binds.dflt (x := (Str.ofString "self")) (y := (Str.ofString "graph")) rfl rfl rfl (by decide +kernel) (by decide +kernel) (F.bd_TopologicalSorter___init__ w) (F.bd2_TopologicalSorter___init__ w))
end
end L2
end Mine
end

section
set_option maxHeartbeats 4000000
namespace Mine
namespace L2
section
variable {K : World → Frag}
theorem s_TopologicalSorter__get_nodeinfo (F : KF K) (w : World) : SB ⟨prog, W K w, sc_TopologicalSorter__get_nodeinfo, ks_TopologicalSorter__get_nodeinfo⟩ b_TopologicalSorter__get_nodeinfo (fnB st_TopologicalSorter__get_nodeinfo) :=
  by
  refine @SB.cons _ _ _ _ _ ?_ ?_
  · exact SS.ite (STt.cmp (SE.walrus rfl (SE.meth meth_get (SE.attr2 (by decide +kernel) (F.at__node2info w) (SE.var rfl)) (SEs.cons (SE.var rfl) (SEs.nil)))) (SE.nne) rfl) (SB.cons (SS.assign2 (SA.sub (SE.attr2 (by decide +kernel) (F.at__node2info w) (SE.var rfl)) (SE.var rfl)) (SA.var rfl) (SE.new rfl (F.new__NodeInfo w) rfl (F.g__NodeInfo w) (SEs.cons (SE.var rfl) (SEs.nil))))
    (SB.nil)) (SB.nil)
  refine @SB.cons _ _ _ _ _ ?_ ?_
  · exact SS.ret (SE.var rfl)
  exact SB.nil
theorem r_TopologicalSorter__get_nodeinfo (F : KF K) (w : World) : FnReal prog (W K w) 80 f_TopologicalSorter__get_nodeinfo (objAt (K w) 80) (fdAt (K w) 80) (fnB st_TopologicalSorter__get_nodeinfo) ks_TopologicalSorter__get_nodeinfo := (F.fn_TopologicalSorter__get_nodeinfo w).real rfl rfl rfl (by kernel_rfl) (uniq_of (by decide +kernel)) (by refine @s_TopologicalSorter__get_nodeinfo K F w) (Binds.plain (xs := [(Str.ofString "self"), (Str.ofString "node")]) rfl rfl rfl (by decide +kernel) (by decide +kernel) (F.bd_TopologicalSorter__get_nodeinfo w))
end
end L2
end Mine
end

section
set_option maxHeartbeats 4000000
namespace Mine
namespace L2
section
variable {K : World → Frag}
theorem s_TopologicalSorter_add (F : KF K) (w : World) : SB ⟨prog, W K w, sc_TopologicalSorter_add, ks_TopologicalSorter_add⟩ b_TopologicalSorter_add (fnB st_TopologicalSorter_add) :=
  by
  refine @SB.cons _ _ _ _ _ ?_ ?_
  · exact SS.ite (STt.cmp (SE.attr2 (by decide +kernel) (F.at__ready_nodes w) (SE.var rfl)) (SE.nne) rfl) (SB.cons (SS.never)
    (SB.nil)) (SB.nil)
  refine @SB.cons _ _ _ _ _ ?_ ?_
  · exact @SS.assign _ _ _ _ _ _ _ _ rfl (by exact SE.callm2 (by decide +kernel) (F.mt__get_nodeinfo w) (SE.var rfl) (SEs.cons (SE.var rfl) (SEs.nil))) (by rfl) (by decide)
  refine @SB.cons _ _ _ _ _ ?_ ?_
  · exact SS.augattr2 (by decide +kernel) (F.at_npredecessors w) (SE.var rfl) (SE.primN prim_len (BN.of rfl (F.gb_len w) Boot.«len») Kp.builtin (SEs.cons (SE.var rfl) (SEs.nil)))
  refine @SB.cons _ _ _ _ _ ?_ ?_
  · exact SS.for (SG.var rfl) (SI.plain (SE.var rfl)) (SB.cons (@SS.assign _ _ _ _ _ _ _ _ rfl (by exact SE.callm2 (by decide +kernel) (F.mt__get_nodeinfo w) (SE.var rfl) (SEs.cons (SE.var rfl) (SEs.nil))) (by rfl) (by decide))
    (SB.cons (SS.expr (SE.meth meth_append (SE.attr2 (by decide +kernel) (F.at_successors w) (SE.var rfl)) (SEs.cons (SE.var rfl) (SEs.nil))))
    (SB.nil))) (SB.nil)
  exact SB.nil
theorem r_TopologicalSorter_add (F : KF K) (w : World) : FnReal prog (W K w) 87 f_TopologicalSorter_add (objAt (K w) 87) (fdAt (K w) 87) (fnB st_TopologicalSorter_add) ks_TopologicalSorter_add := (F.fn_TopologicalSorter_add w).real rfl rfl rfl (by kernel_rfl) (uniq_of (by decide +kernel)) (by refine @s_TopologicalSorter_add K F w) (Binds.rest (xs := [(Str.ofString "self"), (Str.ofString "node")]) (r := (Str.ofString "predecessors")) rfl rfl rfl (by decide +kernel) (by decide +kernel) (fun us vs h _ => F.bd_TopologicalSorter_add w us h vs))
end
end L2
end Mine
end

section
set_option maxHeartbeats 4000000
namespace Mine
namespace L2
section
variable {K : World → Frag}
theorem s_TopologicalSorter_prepare (F : KF K) (w : World) : SB ⟨prog, W K w, sc_TopologicalSorter_prepare, ks_TopologicalSorter_prepare⟩ b_TopologicalSorter_prepare (fnB st_TopologicalSorter_prepare) :=
  by
  refine @SB.cons _ _ _ _ _ ?_ ?_
  · exact SS.ite (STt.cmp (SE.attr2 (by decide +kernel) (F.at__ready_nodes w) (SE.var rfl)) (SE.nne) rfl) (SB.cons (SS.never)
    (SB.nil)) (SB.nil)
  refine @SB.cons _ _ _ _ _ ?_ ?_
  · exact SS.assignU (SA.attr2 (by decide +kernel) (F.at__ready_nodes w) (SE.var rfl)) (SE.comp (ks := [("", .out), ("", .out), ((Str.ofString "i"), .loc)]) (CompOk.of rfl rfl) (SI.values (SE.attr2 (by decide +kernel) (F.at__node2info w) (SE.var rfl))) (SG.var rfl) (STt.cmp (SE.attr2 (by decide +kernel) (F.at_npredecessors w) (SE.var rfl)) (SE.int) rfl) (SE.attr2 (by decide +kernel) (F.at_node w) (SE.var rfl)))
  refine @SB.cons _ _ _ _ _ ?_ ?_
  · exact @SS.assign _ _ _ _ _ _ _ _ rfl (by exact SE.callm2 (by decide +kernel) (F.mt__find_cycle w) (SE.var rfl) (SEs.nil)) (by rfl) (by decide)
  refine @SB.cons _ _ _ _ _ ?_ ?_
  · exact SS.ite (STt.val (SE.var rfl) rfl) (SB.cons (SS.never)
    (SB.nil)) (SB.nil)
  exact SB.nil
theorem r_TopologicalSorter_prepare (F : KF K) (w : World) : FnReal prog (W K w) 92 f_TopologicalSorter_prepare (objAt (K w) 92) (fdAt (K w) 92) (fnB st_TopologicalSorter_prepare) ks_TopologicalSorter_prepare := (F.fn_TopologicalSorter_prepare w).real rfl rfl rfl (by kernel_rfl) (uniq_of (by decide +kernel)) (by refine @s_TopologicalSorter_prepare K F w) (Binds.plain (xs := [(Str.ofString "self")]) rfl rfl rfl (by decide +kernel) (by decide +kernel) (F.bd_TopologicalSorter_prepare w))
end
end L2
end Mine
end

section
set_option maxHeartbeats 4000000
namespace Mine
namespace L2
section
variable {K : World → Frag}
theorem s_TopologicalSorter_get_ready (F : KF K) (w : World) : SB ⟨prog, W K w, sc_TopologicalSorter_get_ready, ks_TopologicalSorter_get_ready⟩ b_TopologicalSorter_get_ready (fnB st_TopologicalSorter_get_ready) :=
  by
  refine @SB.cons _ _ _ _ _ ?_ ?_
  · exact SS.ite (STt.cmp (SE.attr2 (by decide +kernel) (F.at__ready_nodes w) (SE.var rfl)) (SE.nne) rfl) (SB.cons (SS.never)
    (SB.nil)) (SB.nil)
  refine @SB.cons _ _ _ _ _ ?_ ?_
  · exact @SS.assign _ _ _ _ _ _ _ _ rfl (by exact SE.primN prim_tuple (BN.of rfl (F.gb_tuple w) Boot.«tuple») Kp.type (SEs.cons (SE.attr2 (by decide +kernel) (F.at__ready_nodes w) (SE.var rfl)) (SEs.nil))) (by rfl) (by decide)
  refine @SB.cons _ _ _ _ _ ?_ ?_
  · exact @SS.assign _ _ _ _ _ _ _ _ rfl (by exact SE.attr2 (by decide +kernel) (F.at__node2info w) (SE.var rfl)) (by rfl) (by decide)
  refine @SB.cons _ _ _ _ _ ?_ ?_
  · exact SS.for (SG.var rfl) (SI.plain (SE.var rfl)) (SB.cons (SS.assignT (SA.attr2 (by decide +kernel) (F.at_npredecessors w) (SE.sub (SE.var rfl) (SE.var rfl))) (SE.glob rfl (F.g__NODE_OUT w) ⟨_, rfl⟩) (hw := fun _ _ => rfl))
    (SB.nil)) (SB.nil)
  refine @SB.cons _ _ _ _ _ ?_ ?_
  · exact SS.expr (SE.meth meth_clear (SE.attr2 (by decide +kernel) (F.at__ready_nodes w) (SE.var rfl)) (SEs.nil))
  refine @SB.cons _ _ _ _ _ ?_ ?_
  · exact SS.augattr2 (by decide +kernel) (F.at__npassedout w) (SE.var rfl) (SE.primN prim_len (BN.of rfl (F.gb_len w) Boot.«len») Kp.builtin (SEs.cons (SE.var rfl) (SEs.nil)))
  refine @SB.cons _ _ _ _ _ ?_ ?_
  · exact SS.ret (SE.var rfl)
  exact SB.nil
theorem r_TopologicalSorter_get_ready (F : KF K) (w : World) : FnReal prog (W K w) 99 f_TopologicalSorter_get_ready (objAt (K w) 99) (fdAt (K w) 99) (fnB st_TopologicalSorter_get_ready) ks_TopologicalSorter_get_ready := (F.fn_TopologicalSorter_get_ready w).real rfl rfl rfl (by kernel_rfl) (uniq_of (by decide +kernel)) (by refine @s_TopologicalSorter_get_ready K F w) (Binds.plain (xs := [(Str.ofString "self")]) rfl rfl rfl (by decide +kernel) (by decide +kernel) (F.bd_TopologicalSorter_get_ready w))
end
end L2
end Mine
end

section
set_option maxHeartbeats 4000000
namespace Mine
namespace L2
section
variable {K : World → Frag}
theorem s_TopologicalSorter_is_active (F : KF K) (w : World) : SB ⟨prog, W K w, sc_TopologicalSorter_is_active, ks_TopologicalSorter_is_active⟩ b_TopologicalSorter_is_active (fnB st_TopologicalSorter_is_active) :=
  by
  refine @SB.cons _ _ _ _ _ ?_ ?_
  · exact SS.ite (STt.cmp (SE.attr2 (by decide +kernel) (F.at__ready_nodes w) (SE.var rfl)) (SE.nne) rfl) (SB.cons (SS.never)
    (SB.nil)) (SB.nil)
  refine @SB.cons _ _ _ _ _ ?_ ?_
  · exact SS.ret (SE.or (SE.cmp (SE.attr2 (by decide +kernel) (F.at__nfinished w) (SE.var rfl)) (SE.attr2 (by decide +kernel) (F.at__npassedout w) (SE.var rfl)) rfl) (SE.primN prim_bool (BN.of rfl (F.gb_bool w) Boot.«bool») Kp.type (SEs.cons (SE.attr2 (by decide +kernel) (F.at__ready_nodes w) (SE.var rfl)) (SEs.nil))))
  exact SB.nil
theorem r_TopologicalSorter_is_active (F : KF K) (w : World) : FnReal prog (W K w) 106 f_TopologicalSorter_is_active (objAt (K w) 106) (fdAt (K w) 106) (fnB st_TopologicalSorter_is_active) ks_TopologicalSorter_is_active := (F.fn_TopologicalSorter_is_active w).real rfl rfl rfl (by kernel_rfl) (uniq_of (by decide +kernel)) (by refine @s_TopologicalSorter_is_active K F w) (Binds.plain (xs := [(Str.ofString "self")]) rfl rfl rfl (by decide +kernel) (by decide +kernel) (F.bd_TopologicalSorter_is_active w))
end
end L2
end Mine
end

section
set_option maxHeartbeats 4000000
namespace Mine
namespace L2
section
variable {K : World → Frag}
theorem s_TopologicalSorter_done (F : KF K) (w : World) : SB ⟨prog, W K w, sc_TopologicalSorter_done, ks_TopologicalSorter_done⟩ b_TopologicalSorter_done (fnB st_TopologicalSorter_done) :=
  by
  refine @SB.cons _ _ _ _ _ ?_ ?_
  · exact SS.ite (STt.cmp (SE.attr2 (by decide +kernel) (F.at__ready_nodes w) (SE.var rfl)) (SE.nne) rfl) (SB.cons (SS.never)
    (SB.nil)) (SB.nil)
  refine @SB.cons _ _ _ _ _ ?_ ?_
  · exact @SS.assign _ _ _ _ _ _ _ _ rfl (by exact SE.attr2 (by decide +kernel) (F.at__node2info w) (SE.var rfl)) (by rfl) (by decide)
  refine @SB.cons _ _ _ _ _ ?_ ?_
  · exact SS.for (SG.var rfl) (SI.plain (SE.var rfl)) (SB.cons (SS.ite (STt.cmp (SE.walrus rfl (SE.meth meth_get (SE.var rfl) (SEs.cons (SE.var rfl) (SEs.nil)))) (SE.nne) rfl) (SB.cons (SS.never)
    (SB.nil)) (SB.nil))
    (SB.cons (@SS.assign _ _ _ _ _ _ _ _ rfl (by exact SE.attr2 (by decide +kernel) (F.at_npredecessors w) (SE.var rfl)) (by rfl) (by decide))
    (SB.cons (SS.ite (STt.cmp (SE.var rfl) (SE.glob rfl (F.g__NODE_OUT w) ⟨_, rfl⟩) rfl) (SB.cons (SS.ite (STt.cmp (SE.var rfl) (SE.int) rfl) (SB.cons (SS.never)
    (SB.nil)) (SB.cons (SS.ite (STt.cmp (SE.var rfl) (SE.glob rfl (F.g__NODE_DONE w) ⟨_, rfl⟩) rfl) (SB.cons (SS.never)
    (SB.nil)) (SB.cons (SS.never)
    (SB.nil)))
    (SB.nil)))
    (SB.nil)) (SB.nil))
    (SB.cons (SS.assignT (SA.attr2 (by decide +kernel) (F.at_npredecessors w) (SE.var rfl)) (SE.glob rfl (F.g__NODE_DONE w) ⟨_, rfl⟩) (hw := fun _ _ => rfl))
    (SB.cons (SS.for (SG.var rfl) (SI.plain (SE.attr2 (by decide +kernel) (F.at_successors w) (SE.var rfl))) (SB.cons (@SS.assign _ _ _ _ _ _ _ _ rfl (by exact SE.sub (SE.var rfl) (SE.var rfl)) (by rfl) (by decide))
    (SB.cons (SS.augattr2 (by decide +kernel) (F.at_npredecessors w) (SE.var rfl) (SE.int))
    (SB.cons (SS.ite (STt.cmp (SE.attr2 (by decide +kernel) (F.at_npredecessors w) (SE.var rfl)) (SE.int) rfl) (SB.cons (SS.expr (SE.meth meth_append (SE.attr2 (by decide +kernel) (F.at__ready_nodes w) (SE.var rfl)) (SEs.cons (SE.var rfl) (SEs.nil))))
    (SB.nil)) (SB.nil))
    (SB.nil)))) (SB.nil))
    (SB.cons (SS.augattr2 (by decide +kernel) (F.at__nfinished w) (SE.var rfl) (SE.int))
    (SB.nil))))))) (SB.nil)
  exact SB.nil
theorem r_TopologicalSorter_done (F : KF K) (w : World) : FnReal prog (W K w) 120 f_TopologicalSorter_done (objAt (K w) 120) (fdAt (K w) 120) (fnB st_TopologicalSorter_done) ks_TopologicalSorter_done := (F.fn_TopologicalSorter_done w).real rfl rfl rfl (by kernel_rfl) (uniq_of (by decide +kernel)) (by refine @s_TopologicalSorter_done K F w) (Binds.rest (xs := [(Str.ofString "self")]) (r := (Str.ofString "nodes")) rfl rfl rfl (by decide +kernel) (by decide +kernel) (fun us vs h _ => F.bd_TopologicalSorter_done w us h vs))
end
end L2
end Mine
end

section
set_option maxHeartbeats 4000000
namespace Mine
namespace L2
section
variable {K : World → Frag}
theorem s_TopologicalSorter__find_cycle (F : KF K) (w : World) : SB ⟨prog, W K w, sc_TopologicalSorter__find_cycle, ks_TopologicalSorter__find_cycle⟩ b_TopologicalSorter__find_cycle (fnB st_TopologicalSorter__find_cycle) :=
  by
  refine @SB.cons _ _ _ _ _ ?_ ?_
  · exact @SS.assign _ _ _ _ _ _ _ _ rfl (by exact SE.attr2 (by decide +kernel) (F.at__node2info w) (SE.var rfl)) (by rfl) (by decide)
  refine @SB.cons _ _ _ _ _ ?_ ?_
  · exact @SS.assign _ _ _ _ _ _ _ _ rfl (by exact SE.list (SEs.nil)) (by rfl) (by decide)
  refine @SB.cons _ _ _ _ _ ?_ ?_
  · exact @SS.assign _ _ _ _ _ _ _ _ rfl (by exact SE.list (SEs.nil)) (by rfl) (by decide)
  refine @SB.cons _ _ _ _ _ ?_ ?_
  · exact @SS.assign _ _ _ _ _ _ _ _ rfl (by exact SE.primN prim_set (BN.of rfl (F.gb_set w) Boot.«set») Kp.type (SEs.nil)) (by rfl) (by decide)
  refine @SB.cons _ _ _ _ _ ?_ ?_
  · exact @SS.assign _ _ _ _ _ _ _ _ rfl (by exact SE.dict0) (by rfl) (by decide)
  refine @SB.cons _ _ _ _ _ ?_ ?_
  · exact SS.for (SG.var rfl) (SI.plain (SE.var rfl)) (SB.cons (SS.ite (STt.cmp (SE.var rfl) (SE.var rfl) rfl) (SB.cons (SS.cont)
    (SB.nil)) (SB.nil))
    (SB.cons (SS.while (STt.val (SE.bool) rfl) (SB.cons (SS.ite (STt.cmp (SE.var rfl) (SE.var rfl) rfl) (SB.cons (SS.ite (STt.cmp (SE.var rfl) (SE.var rfl) rfl) (SB.cons (SS.ret (SE.bin (SE.slice (SE.var rfl) (SE.sub (SE.var rfl) (SE.var rfl)) (trivial) (trivial)) (SE.list (SEs.cons (SE.var rfl) (SEs.nil)))))
    (SB.nil)) (SB.nil))
    (SB.nil)) (SB.cons (SS.expr (SE.meth meth_sadd (SE.var rfl) (SEs.cons (SE.var rfl) (SEs.nil))))
    (SB.cons (SS.expr (SE.meth meth_append (SE.var rfl) (SEs.cons (SE.next (SE.primN prim_iter (BN.of rfl (F.gb_iter w) Boot.«iter») Kp.builtin (SEs.cons (SE.attr2 (by decide +kernel) (F.at_successors w) (SE.sub (SE.var rfl) (SE.var rfl))) (SEs.nil)))) (SEs.nil))))
    (SB.cons (SS.assignT (SA.sub (SE.var rfl) (SE.var rfl)) (SE.primN prim_len (BN.of rfl (F.gb_len w) Boot.«len») Kp.builtin (SEs.cons (SE.var rfl) (SEs.nil))) (hw := fun _ _ => rfl))
    (SB.cons (SS.expr (SE.meth meth_append (SE.var rfl) (SEs.cons (SE.var rfl) (SEs.nil))))
    (SB.nil))))))
    (SB.cons (SS.while (STt.val (SE.var rfl) rfl) (SB.cons (SS.tryNext rfl (SE.sub (SE.var rfl) (SE.neg)) (SB.cons (SS.del (SE.var rfl) (SE.meth meth_pop (SE.var rfl) (SEs.nil)))
    (SB.cons (SS.expr (SE.meth meth_pop (SE.var rfl) (SEs.nil)))
    (SB.nil))) (BN.of rfl (F.gb_StopIteration w) Boot.«StopIteration»))
    (SB.nil)) (SB.cons (SS.brk)
    (SB.nil)))
    (SB.nil))) (SB.nil))
    (SB.nil))) (SB.nil)
  refine @SB.cons _ _ _ _ _ ?_ ?_
  · exact SS.ret (SE.nne)
  exact SB.nil
theorem r_TopologicalSorter__find_cycle (F : KF K) (w : World) : FnReal prog (W K w) 127 f_TopologicalSorter__find_cycle (objAt (K w) 127) (fdAt (K w) 127) (fnB st_TopologicalSorter__find_cycle) ks_TopologicalSorter__find_cycle := (F.fn_TopologicalSorter__find_cycle w).real rfl rfl rfl (by kernel_rfl) (uniq_of (by decide +kernel)) (by refine @s_TopologicalSorter__find_cycle K F w) (Binds.plain (xs := [(Str.ofString "self")]) rfl rfl rfl (by decide +kernel) (by decide +kernel) (F.bd_TopologicalSorter__find_cycle w))
end
end L2
end Mine
end

section
set_option maxHeartbeats 4000000
namespace Mine
namespace L2
section
variable {K : World → Frag}
theorem s_pretty_flags (F : KF K) (w : World) : SB ⟨prog, W K w, sc_pretty_flags, ks_pretty_flags⟩ b_pretty_flags (fnB st_pretty_flags) :=
  by
  refine @SB.cons _ _ _ _ _ ?_ ?_
  · exact @SS.assign _ _ _ _ _ _ _ _ rfl (by exact SE.list (SEs.nil)) (by rfl) (by decide)
  refine @SB.cons _ _ _ _ _ ?_ ?_
  · exact SS.for (SG.var rfl) (SI.range (BN.of rfl (F.gb_range w) Boot.«range») (SEs.cons (SE.int) (SEs.nil))) (SB.cons (@SS.assign _ _ _ _ _ _ _ _ rfl (by exact SE.bin (SE.int) (SE.var rfl)) (by rfl) (by decide))
    (SB.cons (SS.ite (STt.val (SE.bin (SE.var rfl) (SE.var rfl)) rfl) (SB.cons (SS.expr (SE.meth meth_append (SE.var rfl) (SEs.cons (SE.meth meth_getD (SE.glob rfl (F.g_COMPILER_FLAG_NAMES w) ⟨_, rfl, rfl⟩) (SEs.cons (SE.var rfl) (SEs.cons (SE.primN prim_hex (BN.of rfl (F.gb_hex w) Boot.«hex») Kp.builtin (SEs.cons (SE.var rfl) (SEs.nil))) (SEs.nil)))) (SEs.nil))))
    (SB.cons (SS.aug rfl (SE.var rfl))
    (SB.cons (SS.ite (STt.not (STt.val (SE.var rfl) rfl)) (SB.cons (SS.brk)
    (SB.nil)) (SB.nil))
    (SB.nil)))) (SB.nil))
    (SB.nil))) (SB.cons (SS.expr (SE.meth meth_append (SE.var rfl) (SEs.cons (SE.primN prim_hex (BN.of rfl (F.gb_hex w) Boot.«hex») Kp.builtin (SEs.cons (SE.var rfl) (SEs.nil))) (SEs.nil))))
    (SB.nil))
  refine @SB.cons _ _ _ _ _ ?_ ?_
  · exact SS.ret (SE.meth meth_join (SE.str2 (by decide +kernel)) (SEs.cons (SE.var rfl) (SEs.nil)))
  exact SB.nil
theorem r_pretty_flags (F : KF K) (w : World) : FnReal prog (W K w) 149 f_pretty_flags (objAt (K w) 149) (fdAt (K w) 149) (fnB st_pretty_flags) ks_pretty_flags := (F.fn_pretty_flags w).real rfl rfl rfl (by kernel_rfl) (uniq_of (by decide +kernel)) (by refine @s_pretty_flags K F w) (Binds.plain (xs := [(Str.ofString "flags")]) rfl rfl rfl (by decide +kernel) (by decide +kernel) (F.bd_pretty_flags w))
end
end L2
end Mine
end

section
set_option maxHeartbeats 4000000
namespace Mine
namespace L2
section
variable {K : World → Frag}
theorem s_S_IFMT (F : KF K) (w : World) : SB ⟨prog, W K w, sc_S_IFMT, ks_S_IFMT⟩ b_S_IFMT (fnB st_S_IFMT) :=
  by
  refine @SB.cons _ _ _ _ _ ?_ ?_
  · exact SS.ret (SE.bin (SE.var rfl) (SE.int))
  exact SB.nil
theorem r_S_IFMT (F : KF K) (w : World) : FnReal prog (W K w) 156 f_S_IFMT (objAt (K w) 156) (fdAt (K w) 156) (fnB st_S_IFMT) ks_S_IFMT := (F.fn_S_IFMT w).real rfl rfl rfl (by kernel_rfl) (uniq_of (by decide +kernel)) (by refine @s_S_IFMT K F w) (Binds.plain (xs := [(Str.ofString "mode")]) rfl rfl rfl (by decide +kernel) (by decide +kernel) (F.bd_S_IFMT w))
end
end L2
end Mine
end

section
set_option maxHeartbeats 4000000
namespace Mine
namespace L2
section
variable {K : World → Frag}
theorem s_filemode (F : KF K) (w : World) : SB ⟨prog, W K w, sc_filemode, ks_filemode⟩ b_filemode (fnB st_filemode) :=
  by
  refine @SB.cons _ _ _ _ _ ?_ ?_
  · exact @SS.assign _ _ _ _ _ _ _ _ rfl (by exact SE.list (SEs.nil)) (by rfl) (by decide)
  refine @SB.cons _ _ _ _ _ ?_ ?_
  · exact SS.for (SG.vars (⟨⟨_, _, _, rfl, rfl, by decide⟩, ⟨_, _, _, rfl, rfl, by decide⟩, trivial⟩)) (SI.enum (BN.of rfl (F.gb_enumerate w) Boot.«enumerate») (SE.glob rfl (F.g__filemode_table w) ⟨_, rfl, rfl⟩)) (SB.cons (SS.for (SG.vars (⟨⟨_, _, _, rfl, rfl, by decide⟩, ⟨_, _, _, rfl, rfl, by decide⟩, trivial⟩)) (SI.plain (SE.var rfl)) (SB.cons (SS.ite (STt.cmp (SE.var rfl) (SE.int) rfl) (SB.cons (SS.ite (STt.cmp (SE.callf rfl (F.g_S_IFMT w) (F.k_S_IFMT w) (SEs.cons (SE.var rfl) (SEs.nil))) (SE.var rfl) rfl) (SB.cons (SS.expr (SE.meth meth_append (SE.var rfl) (SEs.cons (SE.var rfl) (SEs.nil))))
    (SB.cons (SS.brk)
    (SB.nil))) (SB.nil))
    (SB.nil)) (SB.cons (SS.ite (STt.cmp (SE.bin (SE.var rfl) (SE.var rfl)) (SE.var rfl) rfl) (SB.cons (SS.expr (SE.meth meth_append (SE.var rfl) (SEs.cons (SE.var rfl) (SEs.nil))))
    (SB.cons (SS.brk)
    (SB.nil))) (SB.nil))
    (SB.nil)))
    (SB.nil)) (SB.cons (SS.ite (STt.cmp (SE.var rfl) (SE.int) rfl) (SB.cons (SS.expr (SE.meth meth_append (SE.var rfl) (SEs.cons (SE.str2 (by decide +kernel)) (SEs.nil))))
    (SB.nil)) (SB.cons (SS.expr (SE.meth meth_append (SE.var rfl) (SEs.cons (SE.str2 (by decide +kernel)) (SEs.nil))))
    (SB.nil)))
    (SB.nil)))
    (SB.nil)) (SB.nil)
  refine @SB.cons _ _ _ _ _ ?_ ?_
  · exact SS.ret (SE.meth meth_join (SE.str2 (by decide +kernel)) (SEs.cons (SE.var rfl) (SEs.nil)))
  exact SB.nil
theorem r_filemode (F : KF K) (w : World) : FnReal prog (W K w) 196 f_filemode (objAt (K w) 196) (fdAt (K w) 196) (fnB st_filemode) ks_filemode := (F.fn_filemode w).real rfl rfl rfl (by kernel_rfl) (uniq_of (by decide +kernel)) (by refine @s_filemode K F w) (Binds.plain (xs := [(Str.ofString "mode")]) rfl rfl rfl (by decide +kernel) (by decide +kernel) (F.bd_filemode w))
end
end L2
end Mine
end

section
set_option maxHeartbeats 4000000
namespace Mine
namespace L2
section
variable {K : World → Frag}
theorem s__law_needs (F : KF K) (w : World) : SB ⟨prog, W K w, sc__law_needs, ks__law_needs⟩ b__law_needs (fnB st__law_needs) :=
  by
  refine @SB.cons _ _ _ _ _ ?_ ?_
  · exact @SS.assign _ _ _ _ _ _ _ _ rfl (by exact SE.meth meth_split (SE.callf rfl (F.g_pretty_flags w) (F.k_pretty_flags w) (SEs.cons (SE.int) (SEs.nil))) (SEs.cons (SE.str2 (by decide +kernel)) (SEs.nil))) (by rfl) (by decide)
  refine @SB.cons _ _ _ _ _ ?_ ?_
  · exact @SS.assign _ _ _ _ _ _ _ _ rfl (by exact SE.dict0) (by rfl) (by decide)
  refine @SB.cons _ _ _ _ _ ?_ ?_
  · exact SS.for (SG.var rfl) (SI.range (BN.of rfl (F.gb_range w) Boot.«range») (SEs.cons (SE.int) (SEs.nil))) (SB.cons (@SS.assign _ _ _ _ _ _ _ _ rfl (by exact SE.bin (SE.bin (SE.bin (SE.int) (SE.var rfl)) (SE.int)) (SE.ite (STt.cmp (SE.bin (SE.var rfl) (SE.int)) (SE.int) rfl) (SE.bin (SE.int) (SE.var rfl)) (SE.int))) (by rfl) (by decide))
    (SB.cons (SS.assignT (SA.sub (SE.var rfl) (SE.sub (SE.var rfl) (SE.var rfl))) (SE.ite (STt.cmp (SE.var rfl) (SE.int) rfl) (SE.meth meth_split (SE.callf rfl (F.g_pretty_flags w) (F.k_pretty_flags w) (SEs.cons (SE.var rfl) (SEs.nil))) (SEs.cons (SE.str2 (by decide +kernel)) (SEs.nil))) (SE.list (SEs.nil))) (hw := fun _ _ => rfl))
    (SB.nil))) (SB.nil)
  refine @SB.cons _ _ _ _ _ ?_ ?_
  · exact SS.ret (SE.tuple (SEs.cons (by exact SE.var rfl) (by exact SEs.cons (by exact SE.var rfl) (by exact SEs.nil))))
  exact SB.nil
theorem r__law_needs (F : KF K) (w : World) : FnReal prog (W K w) 203 f__law_needs (objAt (K w) 203) (fdAt (K w) 203) (fnB st__law_needs) ks__law_needs := (F.fn__law_needs w).real rfl rfl rfl (by kernel_rfl) (uniq_of (by decide +kernel)) (by refine @s__law_needs K F w) (Binds.plain (xs := []) rfl rfl rfl (by decide +kernel) (by decide +kernel) (F.bd__law_needs w))
end
end L2
end Mine
end

section
set_option maxHeartbeats 4000000
namespace Mine
namespace L2
section
variable {K : World → Frag}
theorem s__law_course (F : KF K) (w : World) : SB ⟨prog, W K w, sc__law_course, ks__law_course⟩ b__law_course (fnB st__law_course) :=
  by
  refine @SB.cons _ _ _ _ _ ?_ ?_
  · exact @SS.assign _ _ _ _ _ _ _ _ rfl (by exact SE.new rfl (F.new_TopologicalSorter w) rfl (F.g_TopologicalSorter w) (SEs.nil)) (by rfl) (by decide)
  refine @SB.cons _ _ _ _ _ ?_ ?_
  · exact SS.for (SG.var rfl) (SI.plain (SE.var rfl)) (SB.cons (SS.expr (SE.calls2 (by decide +kernel) (F.mt_add w) (SE.var rfl) (SE.var rfl) (SE.sub (SE.var rfl) (SE.var rfl))))
    (SB.nil)) (SB.nil)
  refine @SB.cons _ _ _ _ _ ?_ ?_
  · exact SS.expr (SE.callm2 (by decide +kernel) (F.mt_prepare w) (SE.var rfl) (SEs.nil))
  refine @SB.cons _ _ _ _ _ ?_ ?_
  · exact SS.assignS (ns := [(Str.ofString "waiting"), (Str.ofString "course")]) ⟨⟨_, rfl, by decide⟩, ⟨_, rfl, by decide⟩, trivial⟩ (asg_two (by decide)) (SE.tuple (SEs.cons (by exact SE.list (SEs.nil)) (by exact SEs.cons (by exact SE.list (SEs.nil)) (by exact SEs.nil)))) (hw := fun env h => swapped_of h (by kernel_rfl))
  refine @SB.cons _ _ _ _ _ ?_ ?_
  · exact SS.while (STt.val (SE.callm2 (by decide +kernel) (F.mt_is_active w) (SE.var rfl) (SEs.nil)) rfl) (SB.cons (SS.aug rfl (SE.primN prim_list (BN.of rfl (F.gb_list w) Boot.«list») Kp.type (SEs.cons (SE.callm2 (by decide +kernel) (F.mt_get_ready w) (SE.var rfl) (SEs.nil)) (SEs.nil))))
    (SB.cons (@SS.assign _ _ _ _ _ _ _ _ rfl (by exact SE.bin (SE.var rfl) (SE.primN prim_len (BN.of rfl (F.gb_len w) Boot.«len») Kp.builtin (SEs.cons (SE.var rfl) (SEs.nil)))) (by rfl) (by decide))
    (SB.cons (@SS.assign _ _ _ _ _ _ _ _ rfl (by exact SE.bin (SE.var rfl) (SE.primN prim_len (BN.of rfl (F.gb_len w) Boot.«len») Kp.builtin (SEs.cons (SE.var rfl) (SEs.nil)))) (by rfl) (by decide))
    (SB.cons (SS.expr (SE.meth meth_append (SE.var rfl) (SEs.cons (SE.meth meth_popAt (SE.var rfl) (SEs.cons (SE.var rfl) (SEs.nil))) (SEs.nil))))
    (SB.cons (SS.expr (SE.callm2 (by decide +kernel) (F.mt_done w) (SE.var rfl) (SEs.cons (SE.sub (SE.var rfl) (SE.neg)) (SEs.nil))))
    (SB.nil)))))) (SB.nil)
  refine @SB.cons _ _ _ _ _ ?_ ?_
  · exact SS.ret (SE.var rfl)
  exact SB.nil
theorem r__law_course (F : KF K) (w : World) : FnReal prog (W K w) 210 f__law_course (objAt (K w) 210) (fdAt (K w) 210) (fnB st__law_course) ks__law_course := (F.fn__law_course w).real rfl rfl rfl (by kernel_rfl) (uniq_of (by decide +kernel)) (by refine @s__law_course K F w) (Binds.plain (xs := [(Str.ofString "names"), (Str.ofString "needs"), (Str.ofString "code")]) rfl rfl rfl (by decide +kernel) (by decide +kernel) (F.bd__law_course w))
end
end L2
end Mine
end

section
set_option maxHeartbeats 4000000
namespace Mine
namespace L2
section
variable {K : World → Frag}
theorem s__law_slid (F : KF K) (w : World) : SB ⟨prog, W K w, sc__law_slid, ks__law_slid⟩ b__law_slid (fnB st__law_slid) :=
  by
  refine @SB.cons _ _ _ _ _ ?_ ?_
  · exact @SS.assign _ _ _ _ _ _ _ _ rfl (by exact SE.slice (SE.var rfl) (trivial) (trivial) (trivial)) (by rfl) (by decide)
  refine @SB.cons _ _ _ _ _ ?_ ?_
  · exact SS.for (SG.var rfl) (SI.range (BN.of rfl (F.gb_range w) Boot.«range») (SEs.cons (SE.int) (SEs.cons (SE.int) (SEs.cons (SE.neg) (SEs.nil))))) (SB.cons (SS.for (SG.var rfl) (SI.range (BN.of rfl (F.gb_range w) Boot.«range») (SEs.cons (SE.var rfl) (SEs.nil))) (SB.cons (SS.assignS (ns := [(Str.ofString "one"), (Str.ofString "two")]) ⟨⟨_, rfl, by decide⟩, ⟨_, rfl, by decide⟩, trivial⟩ (asg_two (by decide)) (SE.tuple (SEs.cons (by exact SE.sub (SE.var rfl) (SE.var rfl)) (by exact SEs.cons (by exact SE.sub (SE.var rfl) (SE.bin (SE.var rfl) (SE.int))) (by exact SEs.nil)))) (hw := fun env h => swapped_of h (by kernel_rfl)))
    (SB.cons (SS.ite (STt.cmp (SE.var rfl) (SE.sub (SE.var rfl) (SE.var rfl)) rfl) (SB.cons (SS.assignT (SA.subs (SE.var rfl) (SE.var rfl) (SE.var rfl) (SE.bin (SE.var rfl) (SE.int))) (SE.tuple (SEs.cons (by exact SE.var rfl) (by exact SEs.cons (by exact SE.var rfl) (by exact SEs.nil)))) (hw := fun env h => swapped_of h (by kernel_rfl)))
    (SB.nil)) (SB.nil))
    (SB.nil))) (SB.nil))
    (SB.nil)) (SB.nil)
  refine @SB.cons _ _ _ _ _ ?_ ?_
  · exact SS.ret (SE.var rfl)
  exact SB.nil
theorem r__law_slid (F : KF K) (w : World) : FnReal prog (W K w) 217 f__law_slid (objAt (K w) 217) (fdAt (K w) 217) (fnB st__law_slid) ks__law_slid := (F.fn__law_slid w).real rfl rfl rfl (by kernel_rfl) (uniq_of (by decide +kernel)) (by refine @s__law_slid K F w) (Binds.plain (xs := [(Str.ofString "needs"), (Str.ofString "course")]) rfl rfl rfl (by decide +kernel) (by decide +kernel) (F.bd__law_slid w))
end
end L2
end Mine
end

section
set_option maxHeartbeats 4000000
namespace Mine
namespace L2
section
variable {K : World → Frag}
theorem s__law_rows (F : KF K) (w : World) : SB ⟨prog, W K w, sc__law_rows, ks__law_rows⟩ b__law_rows (fnB st__law_rows) :=
  by
  refine @SB.cons _ _ _ _ _ ?_ ?_
  · exact @SS.assign _ _ _ _ _ _ _ _ rfl (by exact SE.list (SEs.cons (SE.callf rfl (F.g_filemode w) (F.k_filemode w) (SEs.cons (SE.var rfl) (SEs.nil))) (SEs.nil))) (by rfl) (by decide)
  refine @SB.cons _ _ _ _ _ ?_ ?_
  · exact SS.for (SG.var rfl) (SI.plain (SE.var rfl)) (SB.cons (SS.aug rfl (SE.bin (SE.int) (SE.meth meth_index (SE.var rfl) (SEs.cons (SE.var rfl) (SEs.nil)))))
    (SB.cons (SS.expr (SE.meth meth_append (SE.var rfl) (SEs.cons (SE.callf rfl (F.g_filemode w) (F.k_filemode w) (SEs.cons (SE.var rfl) (SEs.nil))) (SEs.nil))))
    (SB.nil))) (SB.nil)
  refine @SB.cons _ _ _ _ _ ?_ ?_
  · exact SS.ret (SE.var rfl)
  exact SB.nil
theorem r__law_rows (F : KF K) (w : World) : FnReal prog (W K w) 224 f__law_rows (objAt (K w) 224) (fdAt (K w) 224) (fnB st__law_rows) ks__law_rows := (F.fn__law_rows w).real rfl rfl rfl (by kernel_rfl) (uniq_of (by decide +kernel)) (by refine @s__law_rows K F w) (Binds.plain (xs := [(Str.ofString "names"), (Str.ofString "course"), (Str.ofString "mode")]) rfl rfl rfl (by decide +kernel) (by decide +kernel) (F.bd__law_rows w))
end
end L2
end Mine
end

section
set_option maxHeartbeats 4000000
namespace Mine
namespace L2
section
variable {K : World → Frag}
theorem s__law_own (F : KF K) (w : World) : SB ⟨prog, W K w, sc__law_own, ks__law_own⟩ b__law_own (fnB st__law_own) :=
  by
  refine @SB.cons _ _ _ _ _ ?_ ?_
  · exact @SS.assign _ _ _ _ _ _ _ _ rfl (by exact SE.list (SEs.nil)) (by rfl) (by decide)
  refine @SB.cons _ _ _ _ _ ?_ ?_
  · exact SS.for (SG.var rfl) (SI.range (BN.of rfl (F.gb_range w) Boot.«range») (SEs.cons (SE.int) (SEs.nil))) (SB.cons (@SS.assign _ _ _ _ _ _ _ _ rfl (by exact SE.slice (SE.var rfl) (trivial) (SE.var rfl) (trivial)) (by rfl) (by decide))
    (SB.cons (SS.assignC rfl (ks := [((Str.ofString "names"), .free), ("", .out), ("", .out), ("", .out), ("", .out), ((Str.ofString "there"), .free), ("", .out), ((Str.ofString "k"), .loc)]) (CompOk.of rfl rfl) (SI.range (BN.of rfl (F.gb_range w) Boot.«range») (SEs.cons (SE.int) (SEs.nil))) (SG.var rfl) (trivial) (SE.ite (STt.cmp (SE.sub (SE.var rfl) (SE.bin (SE.int) (SE.var rfl))) (SE.var rfl) rfl) (SE.sub (SE.str2 (by decide +kernel)) (SE.var rfl)) (SE.str2 (by decide +kernel))))
    (SB.cons (SS.expr (SE.meth meth_append (SE.var rfl) (SEs.cons (SE.bin (SE.sub (SE.str2 (by decide +kernel)) (SE.var rfl)) (SE.meth meth_join (SE.str2 (by decide +kernel)) (SEs.cons (SE.var rfl) (SEs.nil)))) (SEs.nil))))
    (SB.nil)))) (SB.nil)
  refine @SB.cons _ _ _ _ _ ?_ ?_
  · exact SS.ret (SE.var rfl)
  exact SB.nil
theorem r__law_own (F : KF K) (w : World) : FnReal prog (W K w) 229 f__law_own (objAt (K w) 229) (fdAt (K w) 229) (fnB st__law_own) ks__law_own := (F.fn__law_own w).real rfl rfl rfl (by kernel_rfl) (uniq_of (by decide +kernel)) (by refine @s__law_own K F w) (Binds.plain (xs := [(Str.ofString "names"), (Str.ofString "course"), (Str.ofString "kind")]) rfl rfl rfl (by decide +kernel) (by decide +kernel) (F.bd__law_own w))
end
end L2
end Mine
end

section
set_option maxHeartbeats 4000000
namespace Mine
namespace L2
section
variable {K : World → Frag}
theorem s__law_exchanged (F : KF K) (w : World) : SB ⟨prog, W K w, sc__law_exchanged, ks__law_exchanged⟩ b__law_exchanged (fnB st__law_exchanged) :=
  by
  refine @SB.cons _ _ _ _ _ ?_ ?_
  · exact SS.ret (SE.bin (SE.sub (SE.var rfl) (SE.int)) (SE.meth meth_join (SE.str2 (by decide +kernel)) (SEs.cons (SE.comp (ks := [((Str.ofString "row"), .free), ((Str.ofString "k"), .loc)]) (CompOk.of rfl rfl) (SI.range (BN.of rfl (F.gb_range w) Boot.«range») (SEs.cons (SE.int) (SEs.nil))) (SG.var rfl) (trivial) (SE.ite (STt.cmp (SE.sub (SE.var rfl) (SE.bin (SE.int) (SE.var rfl))) (SE.str2 (by decide +kernel)) rfl) (SE.sub (SE.str2 (by decide +kernel)) (SE.var rfl)) (SE.str2 (by decide +kernel)))) (SEs.nil))))
  exact SB.nil
theorem r__law_exchanged (F : KF K) (w : World) : FnReal prog (W K w) 234 f__law_exchanged (objAt (K w) 234) (fdAt (K w) 234) (fnB st__law_exchanged) ks__law_exchanged := (F.fn__law_exchanged w).real rfl rfl rfl (by kernel_rfl) (uniq_of (by decide +kernel)) (by refine @s__law_exchanged K F w) (Binds.plain (xs := [(Str.ofString "row")]) rfl rfl rfl (by decide +kernel) (by decide +kernel) (F.bd__law_exchanged w))
end
end L2
end Mine
end

section
set_option maxHeartbeats 4000000
namespace Mine
namespace L2
section
variable {K : World → Frag}
theorem s_law (F : KF K) (w : World) : SB ⟨prog, W K w, sc_law, ks_law⟩ b_law (fnB st_law) :=
  by
  refine @SB.cons _ _ _ _ _ ?_ ?_
  · exact SS.assignC rfl (ks := [("", .out), ("", .out), ("", .out), ("", .out), ("", .out), ("", .out), ("", .out), ("", .out), ((Str.ofString "cell"), .loc)]) (CompOk.of rfl rfl) (SI.plain (SE.slice (SE.var rfl) (trivial) (SE.int) (trivial))) (SG.var rfl) (trivial) (SE.bin (SE.primN prim_int (BN.of rfl (F.gb_int w) Boot.«int») Kp.type (SEs.cons (SE.var rfl) (SEs.nil))) (SE.bin (SE.int) (SE.int)))
  refine @SB.cons _ _ _ _ _ ?_ ?_
  · exact SS.assignT (SA.vars (⟨⟨_, _, _, rfl, rfl, by decide⟩, ⟨_, _, _, rfl, rfl, by decide⟩, trivial⟩)) (SE.callf rfl (F.g__law_needs w) (F.k__law_needs w) (SEs.nil)) (hw := fun _ _ => rfl)
  refine @SB.cons _ _ _ _ _ ?_ ?_
  · exact @SS.assign _ _ _ _ _ _ _ _ rfl (by exact SE.callf rfl (F.g__law_course w) (F.k__law_course w) (SEs.cons (SE.var rfl) (SEs.cons (SE.var rfl) (SEs.cons (SE.bin (SE.int) (SE.primN prim_sum (BN.of rfl (F.gb_sum w) Boot.«sum») Kp.builtin (SEs.cons (SE.slice (SE.var rfl) (trivial) (trivial) (SE.int)) (SEs.nil)))) (SEs.nil))))) (by rfl) (by decide)
  refine @SB.cons _ _ _ _ _ ?_ ?_
  · exact @SS.assign _ _ _ _ _ _ _ _ rfl (by exact SE.bin (SE.bin (SE.int) (SE.primN prim_sum (BN.of rfl (F.gb_sum w) Boot.«sum») Kp.builtin (SEs.cons (SE.slice (SE.var rfl) (SE.int) (trivial) (SE.int)) (SEs.nil)))) (SE.int)) (by rfl) (by decide)
  refine @SB.cons _ _ _ _ _ ?_ ?_
  · exact @SS.assign _ _ _ _ _ _ _ _ rfl (by exact SE.callf rfl (F.g__law_rows w) (F.k__law_rows w) (SEs.cons (SE.var rfl) (SEs.cons (SE.var rfl) (SEs.cons (SE.bin (SE.int) (SE.var rfl)) (SEs.nil))))) (by rfl) (by decide)
  refine @SB.cons _ _ _ _ _ ?_ ?_
  · exact @SS.assign _ _ _ _ _ _ _ _ rfl (by exact SE.callf rfl (F.g__law_rows w) (F.k__law_rows w) (SEs.cons (SE.var rfl) (SEs.cons (SE.callf rfl (F.g__law_slid w) (F.k__law_slid w) (SEs.cons (SE.var rfl) (SEs.cons (SE.var rfl) (SEs.nil)))) (SEs.cons (SE.bin (SE.int) (SE.var rfl)) (SEs.nil))))) (by rfl) (by decide)
  refine @SB.cons _ _ _ _ _ ?_ ?_
  · exact SS.ite (STt.cmp (SE.var rfl) (SE.callf rfl (F.g__law_own w) (F.k__law_own w) (SEs.cons (SE.var rfl) (SEs.cons (SE.var rfl) (SEs.cons (SE.var rfl) (SEs.nil))))) rfl) (SB.cons (SS.ret (SE.bool))
    (SB.nil)) (SB.nil)
  refine @SB.cons _ _ _ _ _ ?_ ?_
  · exact SS.ret (SE.cmp (SE.var rfl) (SE.comp (ks := [("", .out), ("", .out), ("", .out), ("", .out), ("", .out), ("", .out), ("", .out), ("", .out), ("", .out), ((Str.ofString "row"), .loc)]) (CompOk.of rfl rfl) (SI.plain (SE.slice (SE.var rfl) (trivial) (trivial) (SE.neg))) (SG.var rfl) (trivial) (SE.callf rfl (F.g__law_exchanged w) (F.k__law_exchanged w) (SEs.cons (SE.var rfl) (SEs.nil)))) rfl)
  exact SB.nil
theorem r_law (F : KF K) (w : World) : FnReal prog (W K w) 239 f_law (objAt (K w) 239) (fdAt (K w) 239) (fnB st_law) ks_law := (F.fn_law w).real rfl rfl rfl (by kernel_rfl) (uniq_of (by decide +kernel)) (by refine @s_law K F w) (Binds.plain (xs := [(Str.ofString "script")]) rfl rfl rfl (by decide +kernel) (by decide +kernel) (F.bd_law w))
end
end L2
end Mine
end

section
set_option maxHeartbeats 4000000
namespace Mine
namespace L2
section
variable {K : World → Frag}
theorem all_fn (F : KF K) (w : World) : ∀ f fn, prog.fn f = some fn → ∃ o fd body ks, FnReal prog (W K w) f fn o fd body ks :=
  all_fns (Q := fun f fn => ∃ o fd body ks, FnReal prog (W K w) f fn o fd body ks) (l := fns) (List.forall_mem_cons.mpr ⟨⟨objAt (K w) 36, fdAt (K w) 36, fnB st__NodeInfo___init__, ks__NodeInfo___init__, r__NodeInfo___init__ F w⟩, List.forall_mem_cons.mpr ⟨⟨objAt (K w) 73, fdAt (K w) 73, fnB st_TopologicalSorter___init__, ks_TopologicalSorter___init__, r_TopologicalSorter___init__ F w⟩, List.forall_mem_cons.mpr ⟨⟨objAt (K w) 80, fdAt (K w) 80, fnB st_TopologicalSorter__get_nodeinfo, ks_TopologicalSorter__get_nodeinfo, r_TopologicalSorter__get_nodeinfo F w⟩, List.forall_mem_cons.mpr ⟨⟨objAt (K w) 87, fdAt (K w) 87, fnB st_TopologicalSorter_add, ks_TopologicalSorter_add, r_TopologicalSorter_add F w⟩, List.forall_mem_cons.mpr ⟨⟨objAt (K w) 92, fdAt (K w) 92, fnB st_TopologicalSorter_prepare, ks_TopologicalSorter_prepare, r_TopologicalSorter_prepare F w⟩, List.forall_mem_cons.mpr ⟨⟨objAt (K w) 99, fdAt (K w) 99, fnB st_TopologicalSorter_get_ready, ks_TopologicalSorter_get_ready, r_TopologicalSorter_get_ready F w⟩, List.forall_mem_cons.mpr ⟨⟨objAt (K w) 106, fdAt (K w) 106, fnB st_TopologicalSorter_is_active, ks_TopologicalSorter_is_active, r_TopologicalSorter_is_active F w⟩, List.forall_mem_cons.mpr ⟨⟨objAt (K w) 120, fdAt (K w) 120, fnB st_TopologicalSorter_done, ks_TopologicalSorter_done, r_TopologicalSorter_done F w⟩, List.forall_mem_cons.mpr ⟨⟨objAt (K w) 127, fdAt (K w) 127, fnB st_TopologicalSorter__find_cycle, ks_TopologicalSorter__find_cycle, r_TopologicalSorter__find_cycle F w⟩, List.forall_mem_cons.mpr ⟨⟨objAt (K w) 149, fdAt (K w) 149, fnB st_pretty_flags, ks_pretty_flags, r_pretty_flags F w⟩, List.forall_mem_cons.mpr ⟨⟨objAt (K w) 156, fdAt (K w) 156, fnB st_S_IFMT, ks_S_IFMT, r_S_IFMT F w⟩, List.forall_mem_cons.mpr ⟨⟨objAt (K w) 196, fdAt (K w) 196, fnB st_filemode, ks_filemode, r_filemode F w⟩, List.forall_mem_cons.mpr ⟨⟨objAt (K w) 203, fdAt (K w) 203, fnB st__law_needs, ks__law_needs, r__law_needs F w⟩, List.forall_mem_cons.mpr ⟨⟨objAt (K w) 210, fdAt (K w) 210, fnB st__law_course, ks__law_course, r__law_course F w⟩, List.forall_mem_cons.mpr ⟨⟨objAt (K w) 217, fdAt (K w) 217, fnB st__law_slid, ks__law_slid, r__law_slid F w⟩, List.forall_mem_cons.mpr ⟨⟨objAt (K w) 224, fdAt (K w) 224, fnB st__law_rows, ks__law_rows, r__law_rows F w⟩, List.forall_mem_cons.mpr ⟨⟨objAt (K w) 229, fdAt (K w) 229, fnB st__law_own, ks__law_own, r__law_own F w⟩, List.forall_mem_cons.mpr ⟨⟨objAt (K w) 234, fdAt (K w) 234, fnB st__law_exchanged, ks__law_exchanged, r__law_exchanged F w⟩, List.forall_mem_cons.mpr ⟨⟨objAt (K w) 239, fdAt (K w) 239, fnB st_law, ks_law, r_law F w⟩, fun _ h => (nomatch h)⟩⟩⟩⟩⟩⟩⟩⟩⟩⟩⟩⟩⟩⟩⟩⟩⟩⟩⟩)
theorem law_call (F : KF K) (w : World) {s : Shared} {l : Addr} {vs : List Value} {script : List Int} (KX : (K w).In s.heap) (hex : s.heap.get? l = some { cls := .type "list", data := .seq vs.toArray }) (hI : IntsAre vs script) (h3 : 3 < l)
    (hbl : ∃ o es ep, s.heap.get? builtinsNs = some o ∧ o.data = .dict es ep ∧ StrKeys es ∧ ∀ x : Str, x ≠ "__name__" → nsFind es x = bootBuiltins x)
    (hlaw : ∃ n st, (run prog n).b b_law (lawSt f_law heap0 script) = some (.ret (.bool true), st)) {R : Result → Shared → Prop} (hR : ∀ s' : Shared, (∀ b o, s.heap.get? b = some o → s'.heap.get? b = some o) → Same s s' → R (.ok (.ret (.bool true))) s') :
    codeAny (model pw w) callerA (.call (.ref 239) ⟨[.ref l], []⟩) R s := by
  obtain ⟨n, st, hrun⟩ := hlaw
  obtain ⟨o, es, n', e, q⟩ := dict_of (F.d3 w)
  exact top_sound (W := W K w) (TopObjs.of (F.tops w)) (fun h X => noLimit_of (K := K w) (F.stat w) h X) (all_fn F w) (r_law F w) rfl (F.lawb w) KX hex hI h3 hbl ⟨o, KX 3 _ e⟩ hrun hR
end
end L2
end Mine
end

section
set_option genSizeOf false
set_option genInjectivity false
namespace Mine
noncomputable def LeM {α : Type} (c c' : M α) : Prop := ∀ st r, c st = some r → c' st = some r
theorem LeM.refl {α : Type} (c : M α) : LeM c c := fun _ _ h => h
theorem LeM.bnd {α β : Type} {c c' : M α} {k k' : α → M β} (h : LeM c c') (hk : ∀ a, LeM (k a) (k' a)) : LeM (bnd c k) (bnd c' k') := fun st r e => by
  unfold Mine.bnd at e ⊢
  cases q : c st with
  | none => rw [q] at e; (first | exact nope e | refine rt_elim e ?_ | refine some_elim e ?_ | cases e)
  | some p =>
    obtain ⟨a, st1⟩ := p
    rw [q] at e
    rw [h _ _ q]
    exact hk a _ _ e
theorem LeM.ite {α : Type} {p : Prop} [Decidable p] {c c' d d' : M α} (h : LeM c c') (h2 : LeM d d') : LeM (if p then c else d) (if p then c' else d') := by
  by_cases q : p
  · rw [if_pos q, if_pos q]; exact h
  · rw [if_neg q, if_neg q]; exact h2
structure EvLe (p q : Ev) : Prop where
  e : ∀ x, LeM (p.e x) (q.e x)
  t : ∀ x, LeM (p.t x) (q.t x)
  s : ∀ x, LeM (p.s x) (q.s x)
  b : ∀ x, LeM (p.b x) (q.b x)
  f : ∀ x y z w, LeM (p.f x y z w) (q.f x y z w)
  g : ∀ x y z w v, LeM (p.g x y z w v) (q.g x y z w v)
  w : ∀ x y z, LeM (p.w x y z) (q.w x y z)
  c : ∀ x y, LeM (p.c x y) (q.c x y)
theorem EvLe.refl (a : Ev) : EvLe a a := ⟨fun _ => .refl _, fun _ => .refl _, fun _ => .refl _, fun _ => .refl _, fun _ _ _ _ => .refl _, fun _ _ _ _ _ => .refl _, fun _ _ _ => .refl _, fun _ _ => .refl _⟩
theorem EvLe.trans {a b c : Ev} (h : EvLe a b) (k : EvLe b c) : EvLe a c := ⟨fun x _ _ e => k.e x _ _ (h.e x _ _ e), fun x _ _ e => k.t x _ _ (h.t x _ _ e), fun x _ _ e => k.s x _ _ (h.s x _ _ e), fun x _ _ e => k.b x _ _ (h.b x _ _ e),
  fun x y z w _ _ e => k.f x y z w _ _ (h.f x y z w _ _ e), fun x y z w v _ _ e => k.g x y z w v _ _ (h.g x y z w v _ _ e), fun x y z _ _ e => k.w x y z _ _ (h.w x y z _ _ e), fun x y _ _ e => k.c x y _ _ (h.c x y _ _ e)⟩
section
variable {P : Prog} {a b : Ev}
theorem le_evs (h : EvLe a b) : ∀ es, LeM (evs a es) (evs b es)
  | [] => .refl _
  | e :: r => LeM.bnd (h.e e) fun _ => LeM.bnd (le_evs h r) fun _ => .refl _
theorem le_evO (h : EvLe a b) : ∀ o, LeM (evO a o) (evO b o)
  | none => .refl _
  | some e => h.e e
theorem le_evI (h : EvLe a b) : ∀ i, LeM (evI a i) (evI b i)
  | .plain e => LeM.bnd (h.e e) fun _ => .refl _
  | .range args => LeM.bnd (le_evs h args) fun _ => .refl _
  | .enum e => LeM.bnd (h.e e) fun _ => .refl _
  | .zip x y => LeM.bnd (h.e x) fun _ => LeM.bnd (h.e y) fun _ => .refl _
  | .values e => LeM.bnd (h.e e) fun _ => .refl _
theorem le_star (h : EvLe a b) : ∀ o, LeM (starOf a o) (starOf b o)
  | none => .refl _
  | some e => LeM.bnd (h.e e) fun _ => .refl _
theorem le_frozen {c c' : M CV} (h : LeM c c') : LeM (frozen c) (frozen c') := fun st r e => by
  unfold frozen at e ⊢
  dsimp only at e ⊢
  split at e
  · (first | exact nope e | refine rt_elim e ?_ | refine some_elim e ?_ | cases e)
  · rename_i q; rw [h _ _ q]; exact e
theorem le_canon {T : Nat} {c c' : List CV → M CV} (h : ∀ v, LeM (c v) (c' v)) (args : List CV) : LeM (canon T c args) (canon T c' args) := fun st r e => by
  unfold canon at e ⊢
  split at e
  · rename_i q0
    rw [if_pos q0]
    split at e
    · (first | exact nope e | refine rt_elim e ?_ | refine some_elim e ?_ | cases e)
    · rename_i q1
      try simp only [q1]
      split at e
      · (first | exact nope e | refine rt_elim e ?_ | refine some_elim e ?_ | cases e)
      · rename_i q2; simp only [h _ _ _ q2]; exact e
  · (first | exact nope e | refine rt_elim e ?_ | refine some_elim e ?_ | cases e)
theorem le_stepE (h : EvLe a b) : ∀ x, LeM (stepE P a x) (stepE P b x) := fun x => by
  cases x with
  | const v => exact .refl _
  | var i => exact .refl _
  | glob v => exact .refl _
  | bin op x y => exact LeM.bnd (h.e x) fun _ => LeM.bnd (h.e y) fun _ => .refl _
  | neg x => exact LeM.bnd (h.e x) fun _ => .refl _
  | not x => exact LeM.bnd (h.e x) fun _ => .refl _
  | cmp op x y => exact LeM.bnd (h.e x) fun _ => LeM.bnd (h.e y) fun _ => .refl _
  | and x y => exact LeM.bnd (h.e x) fun _ => LeM.bnd (.refl _) fun _ => LeM.ite (h.e y) (.refl _)
  | or x y => exact LeM.bnd (h.e x) fun _ => LeM.bnd (.refl _) fun _ => LeM.ite (.refl _) (h.e y)
  | ite t x y => exact LeM.bnd (h.t t) fun _ => LeM.ite (h.e x) (h.e y)
  | walrus i x => exact LeM.bnd (h.e x) fun _ => .refl _
  | attr x n => exact LeM.bnd (h.e x) fun _ => .refl _
  | sub x y => exact LeM.bnd (h.e x) fun _ => LeM.bnd (h.e y) fun _ => .refl _
  | slice x l u t => exact LeM.bnd (h.e x) fun _ => LeM.bnd (le_evO h l) fun _ => LeM.bnd (le_evO h u) fun _ => LeM.bnd (le_evO h t) fun _ => .refl _
  | list xs => exact LeM.bnd (le_evs h xs) fun _ => .refl _
  | tuple xs => exact LeM.bnd (le_evs h xs) fun _ => .refl _
  | dict0 s => exact .refl _
  | prim p xs => exact LeM.bnd (le_evs h xs) fun _ => .refl _
  | meth p o xs => exact LeM.bnd (h.e o) fun _ => LeM.bnd (.refl _) fun _ => LeM.bnd (le_evs h xs) fun _ => .refl _
  | callf f p xs => exact LeM.bnd (le_evs h xs) fun _ => LeM.ite (le_canon (fun v => h.c f v) _) (h.c f _)
  | callm o x p xs st =>
    refine LeM.bnd (h.e o) fun v => LeM.bnd (.refl _) fun q => ?_
    try dsimp only
    split
    · split
      · exact LeM.bnd (le_evs h xs) fun _ => LeM.bnd (le_star h st) fun _ => LeM.ite (le_frozen (h.c _ _)) (h.c _ _)
      · exact .refl _
    · exact .refl _
  | new C xs =>
    unfold stepE
    try dsimp only
    split
    · refine LeM.bnd (le_evs h xs) fun vs => LeM.bnd (.refl _) fun v => fun st r e => ?_
      skip
      split at e
      · (first | exact nope e | refine rt_elim e ?_ | refine some_elim e ?_ | cases e)
      · rename_i q
        rw [if_neg q]
        split at e
        · rename_i q2; rw [h.c _ _ _ _ q2]; exact e
        · (first | exact nope e | refine rt_elim e ?_ | refine some_elim e ?_ | cases e)
    · exact .refl _
  | comp el ts it cs =>
    refine LeM.bnd (le_evI h it) fun i => fun st r e => ?_
    dsimp only at e ⊢
    split at e
    · (first | exact nope e | refine rt_elim e ?_ | refine some_elim e ?_ | cases e)
    · rename_i q; rw [h.g _ _ _ _ _ _ _ q]; exact e
theorem le_stepT (h : EvLe a b) : ∀ x, LeM (stepT a x) (stepT b x) := fun x => by
  cases x with
  | not x => exact LeM.bnd (h.t x) fun _ => .refl _
  | and x y => exact LeM.bnd (h.t x) fun _ => LeM.ite (h.t y) (.refl _)
  | or x y => exact LeM.bnd (h.t x) fun _ => LeM.ite (.refl _) (h.t y)
  | ite t x y => exact LeM.bnd (h.t t) fun _ => LeM.ite (h.t x) (h.t y)
  | _ => exact LeM.bnd (h.e _) fun _ => .refl _
theorem le_asgT (h : EvLe a b) (t : CT) (v : CV) : LeM (asgT P a t v) (asgT P b t v) := by
  induction t with
  | var i => exact .refl _
  | vars is => exact .refl _
  | attr o x => exact LeM.bnd (h.e o) fun _ => .refl _
  | sub o k => exact LeM.bnd (h.e o) fun _ => LeM.bnd (h.e k) fun _ => .refl _
  | subs o1 k1 o2 k2 =>
    unfold asgT guardD
    intro st r e
    dsimp only at e ⊢
    split at e
    · (first | exact nope e | refine rt_elim e ?_ | refine some_elim e ?_ | cases e)
    · rename_i q
      rw [if_neg q]
      refine LeM.bnd (.refl _) (fun o => ?_) st r e
      split
      · exact LeM.bnd (h.e _) fun _ => LeM.bnd (h.e _) fun _ => LeM.bnd (.refl _) fun _ => LeM.bnd (h.e _) fun _ => LeM.bnd (h.e _) fun _ => .refl _
      · exact .refl _
theorem le_stepS (h : EvLe a b) : ∀ x, LeM (stepS P a x) (stepS P b x) := fun x => by
  cases x with
  | expr e => exact LeM.bnd (h.e e) fun _ => .refl _
  | assign t e => exact LeM.bnd (h.e e) fun _ => LeM.bnd (le_asgT h _ _) fun _ => .refl _
  | assign2 t u e => exact LeM.bnd (h.e e) fun _ => LeM.bnd (le_asgT h _ _) fun _ => LeM.bnd (le_asgT h _ _) fun _ => .refl _
  | aug i op e => exact LeM.bnd (.refl _) fun _ => LeM.bnd (h.e e) fun _ => .refl _
  | augattr o x op e => exact LeM.bnd (h.e o) fun _ => LeM.bnd (.refl _) fun _ => LeM.bnd (h.e e) fun _ => .refl _
  | del o k => exact LeM.bnd (h.e o) fun _ => LeM.bnd (h.e k) fun _ => .refl _
  | ret e => exact LeM.bnd (h.e e) fun _ => .refl _
  | ite t x y => exact LeM.bnd (h.t t) fun _ => LeM.ite (h.b x) (h.b y)
  | «for» t it x y => exact LeM.bnd (le_evI h it) fun _ => h.f _ _ _ _
  | «while» t x y => exact h.w _ _ _
  | tryNext i f hd =>
    refine LeM.bnd (h.e f) fun v => LeM.bnd (.refl _) fun o => ?_
    split
    · refine LeM.bnd (.refl _) fun q => ?_
      split
      · refine LeM.bnd (.refl _) fun r => ?_
        split
        · split
          · exact .refl _
          · intro st r e
            dsimp only at e ⊢
            split at e
            · rename_i q
              rw [if_pos q]
              split at e
              · rename_i q2; rw [h.b _ _ _ q2]; exact e
              · (first | exact nope e | refine rt_elim e ?_ | refine some_elim e ?_ | cases e)
            · (first | exact nope e | refine rt_elim e ?_ | refine some_elim e ?_ | cases e)
        · exact .refl _
      · exact .refl _
    · exact .refl _
  | never => exact .refl _
  | pass => exact .refl _
  | brk => exact .refl _
  | cont => exact .refl _
theorem le_stepB (h : EvLe a b) : ∀ x, LeM (stepB a x) (stepB b x)
  | [] => .refl _
  | s :: r => LeM.bnd (h.s s) fun fl => by
    induction fl with
    | next => exact h.b r
    | _ => exact .refl _
theorem le_stepF (h : EvLe a b) (it : It) (t : CT) (x y : List CS) : LeM (stepF a it t x y) (stepF b it t x y) := fun st r e => by
  unfold stepF at e ⊢
  split at e
  · (first | exact nope e | refine rt_elim e ?_ | refine some_elim e ?_ | cases e)
  · rename_i q; (try simp only [q]); exact h.b _ _ _ e
  · rename_i q
    try simp only [q]
    refine LeM.bnd (.refl _) (fun _ => LeM.bnd (h.b x) fun fl => ?_) _ _ e
    induction fl with
    | brk => exact .refl _
    | ret v => exact .refl _
    | next => exact h.f _ _ _ _
    | cont => exact h.f _ _ _ _
theorem le_allT (h : EvLe a b) : ∀ cs, LeM (allT a cs) (allT b cs)
  | [] => .refl _
  | c :: r => LeM.bnd (h.t c) fun _ => LeM.ite (le_allT h r) (.refl _)
theorem le_stepG (h : EvLe a b) (it : It) (ts : List Nat) (cs : List CE) (el : CE) (acc : List CV) : LeM (stepG a it ts cs el acc) (stepG b it ts cs el acc) := fun st r e => by
  unfold stepG at e ⊢
  split at e
  · (first | exact nope e | refine rt_elim e ?_ | refine some_elim e ?_ | cases e)
  · rename_i q; (try simp only [q]); exact e
  · rename_i q
    try simp only [q]
    exact LeM.bnd (.refl _) (fun _ => LeM.bnd (le_allT h cs) fun ok => LeM.ite (LeM.bnd (h.e el) fun _ => h.g _ _ _ _ _) (h.g _ _ _ _ _)) _ _ e
theorem le_stepW (h : EvLe a b) (t : CE) (x y : List CS) : LeM (stepW a t x y) (stepW b t x y) :=
  LeM.bnd (h.t t) fun _ => LeM.ite (LeM.bnd (h.b x) fun fl => by
    induction fl with
    | brk => exact .refl _
    | ret v => exact .refl _
    | next => exact h.w _ _ _
    | cont => exact h.w _ _ _) (h.b y)
theorem le_stepC (h : EvLe a b) (f : Addr) (args : List CV) : LeM (stepC P a f args) (stepC P b f args) := fun st r e => by
  unfold stepC at e ⊢
  split at e
  · (first | exact nope e | refine rt_elim e ?_ | refine some_elim e ?_ | cases e)
  · rename_i fn q
    try simp only [q]
    split at e
    · rename_i q1
      rw [if_pos q1]
      split at e
      · (first | exact nope e | refine rt_elim e ?_ | refine some_elim e ?_ | cases e)
      · rename_i q2; simp only [h.b _ _ _ q2]; exact e
    · (first | exact nope e | refine rt_elim e ?_ | refine some_elim e ?_ | cases e)
theorem step_le (h : EvLe a b) : EvLe (step P a) (step P b) := ⟨le_stepE h, le_stepT h, le_stepS h, le_stepB h, le_stepF h, le_stepG h, le_stepW h, le_stepC h⟩
end
theorem ev0_le (a : Ev) : EvLe ev0 a := ⟨fun _ _ _ e => (nomatch e), fun _ _ _ e => (nomatch e), fun _ _ _ e => (nomatch e), fun _ _ _ e => (nomatch e), fun _ _ _ _ _ _ e => (nomatch e), fun _ _ _ _ _ _ _ e => (nomatch e), fun _ _ _ _ _ e => (nomatch e), fun _ _ _ _ e => nomatch e⟩
theorem run_succ_le (P : Prog) : ∀ n, EvLe (run P n) (run P (n + 1))
  | 0 => ev0_le _
  | n + 1 => step_le (run_succ_le P n)
theorem run_le (P : Prog) {n m : Nat} (h : n ≤ m) : EvLe (run P n) (run P m) := by
  induction h with
  | refl => exact .refl _
  | step _ ih => exact ih.trans (run_succ_le P _)
end Mine
end

section
set_option genSizeOf false
set_option genInjectivity false
namespace Mine
namespace Pl
noncomputable def JM (P : Prog) {α : Type} (c : Ev → M α) (st : St) (a : α) (st' : St) : Prop := ∃ n, ∀ m, n ≤ m → c (run P m) st = some (a, st')
section
variable {P : Prog} {α β : Type} {st st1 st2 st3 st' : St}
theorem JM.bnd {c : Ev → M α} {k : Ev → α → M β} {a : α} {b : β} (h : JM P c st a st1) (hk : JM P (fun s => k s a) st1 b st') : JM P (fun s => Mine.bnd (c s) (k s)) st b st' := by
  obtain ⟨n, h⟩ := h
  obtain ⟨m, hk⟩ := hk
  refine ⟨max n m, fun i hi => ?_⟩
  show Mine.bnd _ _ _ = _
  unfold Mine.bnd
  rw [h i (by omega)]
  exact hk i (by omega)
theorem JM.pure {c : M α} {a : α} (h : c st = some (a, st')) : JM P (fun _ => c) st a st' := ⟨0, fun _ _ => h⟩
theorem JM.rt (a : α) : JM P (fun _ => rt a) st a st := ⟨0, fun _ _ => rfl⟩
theorem JM.up {c c' : Ev → M α} {a : α} (h : JM P c st a st') (e : ∀ n, c' (run P (n + 1)) st = c (run P n) st) : JM P c' st a st' := by
  obtain ⟨n, h⟩ := h
  refine ⟨n + 1, fun m hm => ?_⟩
  obtain ⟨k, rfl⟩ : ∃ k, m = k + 1 := ⟨m - 1, by omega⟩
  rw [e]; exact h k (by omega)
noncomputable abbrev E (P : Prog) (x : CE) (st : St) (v : CV) (st' : St) : Prop := JM P (fun s => s.e x) st v st'
noncomputable abbrev T (P : Prog) (x : CE) (st : St) (v : Bool) (st' : St) : Prop := JM P (fun s => s.t x) st v st'
noncomputable abbrev S (P : Prog) (x : CS) (st : St) (v : CF) (st' : St) : Prop := JM P (fun s => s.s x) st v st'
noncomputable abbrev B (P : Prog) (x : List CS) (st : St) (v : CF) (st' : St) : Prop := JM P (fun s => s.b x) st v st'
noncomputable abbrev Fo (P : Prog) (it : It) (t : CT) (x y : List CS) (st : St) (v : CF) (st' : St) : Prop := JM P (fun s => s.f it t x y) st v st'
noncomputable abbrev G (P : Prog) (it : It) (ts : List Nat) (cs : List CE) (el : CE) (acc : List CV) (st : St) (v : List CV) (st' : St) : Prop := JM P (fun s => s.g it ts cs el acc) st v st'
noncomputable abbrev Wh (P : Prog) (t : CE) (x y : List CS) (st : St) (v : CF) (st' : St) : Prop := JM P (fun s => s.w t x y) st v st'
noncomputable abbrev C (P : Prog) (f : Addr) (args : List CV) (st : St) (v : CV) (st' : St) : Prop := JM P (fun s => s.c f args) st v st'
noncomputable abbrev Es (P : Prog) (xs : List CE) (st : St) (v : List CV) (st' : St) : Prop := JM P (fun s => evs s xs) st v st'
noncomputable abbrev I (P : Prog) (x : CI) (st : St) (v : It) (st' : St) : Prop := JM P (fun s => evI s x) st v st'
theorem E.of {n : Nat} {x : CE} {v : CV} (h : (run P n).e x st = some (v, st')) : E P x st v st' := ⟨n, fun _ hm => (run_le P hm).e _ _ _ h⟩
theorem S.of {n : Nat} {x : CS} {v : CF} (h : (run P n).s x st = some (v, st')) : S P x st v st' := ⟨n, fun _ hm => (run_le P hm).s _ _ _ h⟩
theorem B.of {n : Nat} {x : List CS} {v : CF} (h : (run P n).b x st = some (v, st')) : B P x st v st' := ⟨n, fun _ hm => (run_le P hm).b _ _ _ h⟩
theorem C.of {n : Nat} {f : Addr} {x : List CV} {v : CV} (h : (run P n).c f x st = some (v, st')) : C P f x st v st' := ⟨n, fun _ hm => (run_le P hm).c _ _ _ _ h⟩
theorem I.of {n : Nat} {x : CI} {v : It} (h : evI (run P n) x st = some (v, st')) : I P x st v st' := ⟨n, fun _ hm => le_evI (run_le P hm) _ _ _ h⟩
theorem B.ex {x : List CS} {v : CF} (h : B P x st v st') : ∃ n, (run P n).b x st = some (v, st') := let ⟨n, h⟩ := h; ⟨n, h n (Nat.le_refl n)⟩
theorem B.nil : B P [] st .next st := JM.up (c := fun _ => Mine.rt CF.next) (JM.rt _) fun _ => rfl
theorem B.cons {s : CS} {r : List CS} {f : CF} (h : S P s st .next st1) (hr : B P r st1 f st') : B P (s :: r) st f st' := JM.up (JM.bnd (k := fun s fl => match fl with | .next => s.b r | f => Mine.rt f) h hr) fun _ => rfl
theorem B.stop {s : CS} {r : List CS} {f : CF} (h : S P s st f st') (hf : f ≠ .next) : B P (s :: r) st f st' := JM.up (JM.bnd (k := fun s fl => match fl with | .next => s.b r | f => Mine.rt f) h (by
  induction f with
  | next => exact absurd rfl hf
  | _ => exact JM.rt _)) fun _ => rfl
theorem B.cut {x y : List CS} {f : CF} (h : B P x st .next st1) (hr : B P y st1 f st') : B P (x ++ y) st f st' := by
  induction x generalizing st with
  | nil =>
    obtain ⟨n, h⟩ := h
    have := h (n + 1) (by omega)
    cases this
    exact hr
  | cons s r ih =>
    obtain ⟨n, h⟩ := h
    have h1 := h (n + 1) (by omega)
    have h1 : Mine.bnd ((run P n).s s) (fun fl => match fl with | .next => (run P n).b r | f => Mine.rt f) st = some (.next, st1) := h1
    unfold Mine.bnd at h1
    cases q : (run P n).s s st with
    | none => rw [q] at h1; (first | exact nope h1 | refine rt_elim h1 ?_ | refine some_elim h1 ?_ | cases h1)
    | some p =>
      obtain ⟨fl, st2⟩ := p
      rw [q] at h1
      induction fl with
      | next => exact B.cons (S.of q) (ih (B.of h1))
      | _ => cases h1
theorem S.expr {x : CE} {v : CV} (h : E P x st v st') : S P (.expr x) st .next st' := JM.up (JM.bnd (k := fun _ _ => Mine.rt CF.next) h (JM.rt _)) fun _ => rfl
theorem S.assign {t : CT} {x : CE} {v : CV} {u : Unit} (h : E P x st v st1) (ha : JM P (fun s => asgT P s t v) st1 u st') : S P (.assign t x) st .next st' := JM.up (JM.bnd (k := fun s v => Mine.bnd (asgT P s t v) fun _ => Mine.rt CF.next) h (JM.bnd (k := fun _ _ => Mine.rt CF.next) ha (JM.rt _))) fun _ => rfl
theorem setL_ok {i : Nat} {v : CV} (h : i < st.loc.length) : setL i v st = some ((), { st with loc := st.loc.set i (some v) }) := by unfold setL; rw [if_pos h]
theorem S.set {i : Nat} {x : CE} {v : CV} (h : E P x st v st1) (hi : i < st1.loc.length) : S P (.assign (.var i) x) st .next { st1 with loc := st1.loc.set i (some v) } := S.assign (u := ()) h (JM.pure (setL_ok hi))
theorem S.ret {x : CE} {v : CV} (h : E P x st v st') : S P (.ret x) st (.ret v) st' := JM.up (JM.bnd (k := fun _ v => Mine.rt (.ret v)) h (JM.rt _)) fun _ => rfl
theorem S.tt {t : CE} {x y : List CS} {f : CF} (h : T P t st true st1) (hx : B P x st1 f st') : S P (.ite t x y) st f st' := JM.up (JM.bnd (k := fun s c => if c then s.b x else s.b y) h hx) fun _ => rfl
theorem S.ff {t : CE} {x y : List CS} {f : CF} (h : T P t st false st1) (hx : B P y st1 f st') : S P (.ite t x y) st f st' := JM.up (JM.bnd (k := fun s c => if c then s.b x else s.b y) h hx) fun _ => rfl
theorem S.loop {t : CT} {it : CI} {x y : List CS} {i : It} {f : CF} (h : I P it st i st1) (hf : Fo P i t x y st1 f st') : S P (.for t it x y) st f st' := JM.up (JM.bnd (k := fun s i => s.f i t x y) h hf) fun _ => rfl
theorem S.while {t : CE} {x y : List CS} {f : CF} (h : Wh P t x y st f st') : S P (.while t x y) st f st' := JM.up (c := fun s => s.w t x y) h fun _ => rfl
theorem F.done {i : It} {t : CT} {x y : List CS} {f : CF} (h : nextI i st = some none) (hy : B P y st f st') : Fo P i t x y st f st' := JM.up (c := fun s => s.b y) hy fun n => by
  show stepF (run P n) i t x y st = _
  unfold stepF; rw [h]
theorem F.turn {i i' : It} {t : CT} {x y : List CS} {f f' : CF} {w : Item} {u : Unit} (h : nextI i st = some (some (w, i'))) (ha : asgI t w st = some (u, st1)) (hx : B P x st1 f st2) (hn : f = .next ∨ f = .cont) (hy : Fo P i' t x y st2 f' st') : Fo P i t x y st f' st' := by
  refine JM.up (c := fun s => Mine.bnd (asgI t w) fun _ => Mine.bnd (s.b x) fun fl => match fl with | .brk => Mine.rt CF.next | .ret v => Mine.rt (.ret v) | _ => s.f i' t x y) ?_ fun n => ?_
  · refine JM.bnd (k := fun s _ => Mine.bnd (s.b x) fun fl => match fl with | .brk => Mine.rt CF.next | .ret v => Mine.rt (.ret v) | _ => s.f i' t x y) (JM.pure ha) (JM.bnd (k := fun s fl => match fl with | .brk => Mine.rt CF.next | .ret v => Mine.rt (.ret v) | _ => s.f i' t x y) hx ?_)
    rcases hn with rfl | rfl <;> exact hy
  · show stepF (run P n) i t x y st = _
    unfold stepF; rw [h] <;> rfl
theorem F.brk {i i' : It} {t : CT} {x y : List CS} {w : Item} {u : Unit} (h : nextI i st = some (some (w, i'))) (ha : asgI t w st = some (u, st1)) (hx : B P x st1 .brk st') : Fo P i t x y st .next st' := by
  refine JM.up (c := fun s => Mine.bnd (asgI t w) fun _ => Mine.bnd (s.b x) fun fl => match fl with | .brk => Mine.rt CF.next | .ret v => Mine.rt (.ret v) | _ => s.f i' t x y) ?_ fun n => ?_
  · exact JM.bnd (k := fun s _ => Mine.bnd (s.b x) fun fl => match fl with | .brk => Mine.rt CF.next | .ret v => Mine.rt (.ret v) | _ => s.f i' t x y) (JM.pure ha) (JM.bnd (k := fun s fl => match fl with | .brk => Mine.rt CF.next | .ret v => Mine.rt (.ret v) | _ => s.f i' t x y) hx (JM.rt _))
  · show stepF (run P n) i t x y st = _
    unfold stepF; rw [h] <;> rfl
theorem W.done {t : CE} {x y : List CS} {f : CF} (h : T P t st false st1) (hy : B P y st1 f st') : Wh P t x y st f st' :=
  JM.up (JM.bnd (k := fun s c => if c then Mine.bnd (s.b x) fun fl => match fl with | .brk => Mine.rt CF.next | .ret v => Mine.rt (.ret v) | _ => s.w t x y else s.b y) h hy) fun _ => rfl
theorem W.turn {t : CE} {x y : List CS} {f f' : CF} (h : T P t st true st1) (hx : B P x st1 f st2) (hn : f = .next ∨ f = .cont) (hy : Wh P t x y st2 f' st') : Wh P t x y st f' st' :=
  JM.up (JM.bnd (k := fun s c => if c then Mine.bnd (s.b x) fun fl => match fl with | .brk => Mine.rt CF.next | .ret v => Mine.rt (.ret v) | _ => s.w t x y else s.b y) h (by
    refine JM.bnd (k := fun s fl => match fl with | .brk => Mine.rt CF.next | .ret v => Mine.rt (.ret v) | _ => s.w t x y) hx ?_
    rcases hn with rfl | rfl <;> exact hy)) fun _ => rfl
theorem Es.nil : Es P [] st [] st := JM.rt _
theorem Es.cons {x : CE} {r : List CE} {v : CV} {vs : List CV} (h : E P x st v st1) (hr : Es P r st1 vs st') : Es P (x :: r) st (v :: vs) st' := JM.bnd (k := fun s v => Mine.bnd (evs s r) fun vs => Mine.rt (v :: vs)) h (JM.bnd (k := fun _ vs => Mine.rt (v :: vs)) hr (JM.rt _))
theorem Es.one {x : CE} {v : CV} (h : E P x st v st') : Es P [x] st [v] st' := Es.cons h Es.nil
theorem E.const {v : CV} : E P (.const v) st v st := E.of (n := 1) rfl
theorem E.glob {v : CV} : E P (.glob v) st v st := E.of (n := 1) rfl
theorem E.var {i : Nat} {v : CV} (h : st.loc[i]? = some (some v)) : E P (.var i) st v st := E.of (n := 1) (by show getL i st = _; unfold getL; rw [h])
theorem E.bin {op : Operator} {x y : CE} {u v w : CV} (h : E P x st u st1) (k : E P y st1 v st2) (e : binV op u v st2 = some (w, st')) : E P (.bin op x y) st w st' := JM.up (JM.bnd (k := fun s u => Mine.bnd (s.e y) fun v => binV op u v) h (JM.bnd (k := fun _ v => binV op u v) k (JM.pure e))) fun _ => rfl
theorem E.cmp {op : CmpOp} {x y : CE} {u v w : CV} (h : E P x st u st1) (k : E P y st1 v st2) (e : cmpV op u v st2 = some (w, st')) : E P (.cmp op x y) st w st' := JM.up (JM.bnd (k := fun s u => Mine.bnd (s.e y) fun v => cmpV op u v) h (JM.bnd (k := fun _ v => cmpV op u v) k (JM.pure e))) fun _ => rfl
theorem E.sub {x y : CE} {u v w : CV} (h : E P x st u st1) (k : E P y st1 v st2) (e : subV u v st2 = some (w, st')) : E P (.sub x y) st w st' := JM.up (JM.bnd (k := fun s u => Mine.bnd (s.e y) fun v => subV u v) h (JM.bnd (k := fun _ v => subV u v) k (JM.pure e))) fun _ => rfl
theorem E.tt {t x y : CE} {v : CV} (h : T P t st true st1) (hx : E P x st1 v st') : E P (.ite t x y) st v st' := JM.up (JM.bnd (k := fun s c => if c then s.e x else s.e y) h hx) fun _ => rfl
theorem E.ff {t x y : CE} {v : CV} (h : T P t st false st1) (hx : E P y st1 v st') : E P (.ite t x y) st v st' := JM.up (JM.bnd (k := fun s c => if c then s.e x else s.e y) h hx) fun _ => rfl
theorem E.walrus {i : Nat} {x : CE} {v : CV} (h : E P x st v st1) (hi : i < st1.loc.length) : E P (.walrus i x) st v { st1 with loc := st1.loc.set i (some v) } := JM.up (JM.bnd (k := fun _ v => Mine.bnd (setL i v) fun _ => Mine.rt v) h (JM.bnd (k := fun _ _ => Mine.rt v) (JM.pure (setL_ok hi)) (JM.rt _))) fun _ => rfl
theorem E.attr {x : CE} {n : Str} {u v : CV} (h : E P x st u st1) (e : getA P u n st1 = some (v, st')) : E P (.attr x n) st v st' := JM.up (JM.bnd (k := fun _ u => getA P u n) h (JM.pure e)) fun _ => rfl
theorem E.prim {p : Prim} {xs : List CE} {vs : List CV} {v : CV} (h : Es P xs st vs st1) (e : primV p vs st1 = some (v, st')) : E P (.prim p xs) st v st' := JM.up (JM.bnd (k := fun _ vs => primV p vs) h (JM.pure e)) fun _ => rfl
theorem E.meth {p : Prim} {o : CE} {xs : List CE} {u v : CV} {vs : List CV} {un : Unit} (h : E P o st u st1) (hk : kindOk p u st1 = some (un, st1)) (ha : Es P xs st1 vs st2) (e : primV p (u :: vs) st2 = some (v, st')) : E P (.meth p o xs) st v st' :=
  JM.up (JM.bnd (k := fun s v => Mine.bnd (kindOk p v) fun _ => Mine.bnd (evs s xs) fun vs => primV p (v :: vs)) h (JM.bnd (k := fun s _ => Mine.bnd (evs s xs) fun vs => primV p (u :: vs)) (JM.pure hk) (JM.bnd (k := fun _ vs => primV p (u :: vs)) ha (JM.pure e)))) fun _ => rfl
theorem E.list {xs : List CE} {vs : List CV} (h : Es P xs st vs st1) (hl : lenOk vs = true) : E P (.list xs) st (.ref st1.heap.length) { st1 with heap := st1.heap ++ [.list vs] } := JM.up (JM.bnd (k := fun _ vs => if lenOk vs then alloc (.list vs) else no) h (JM.pure (by rw [if_pos hl]; rfl))) fun _ => rfl
theorem E.tuple {xs : List CE} {vs : List CV} (h : Es P xs st vs st1) (hl : lenOk vs = true) : E P (.tuple xs) st (.ref st1.heap.length) { st1 with heap := st1.heap ++ [.tuple vs] } := JM.up (JM.bnd (k := fun _ vs => if lenOk vs then alloc (.tuple vs) else no) h (JM.pure (by rw [if_pos hl]; rfl))) fun _ => rfl
theorem T.val {x : CE} {v : CV} {b : Bool} (h : E P x st v st1) (e : truth v st1 = some (b, st')) (hx : ∀ s : Ev, stepT s x = Mine.bnd (s.e x) truth := by intro _; rfl) : T P x st b st' := JM.up (JM.bnd (k := fun _ v => truth v) h (JM.pure e)) fun n => congrFun (hx (run P n)) st
theorem T.bool {x : CE} {b : Bool} (h : E P x st (.bool b) st') (hx : ∀ s : Ev, stepT s x = Mine.bnd (s.e x) truth := by intro _; rfl) : T P x st b st' := T.val h rfl hx
theorem canon_ok {c : List CV → M CV} {T : Nat} {args args' : List CV} {hs : List CO} {ks : List Nat} {v : CV} {st2 : St} (hT : topFlat T st.heap = true) (hc : cpL (cpV st.heap T 3) args ([], []) = some (args', hs, ks))
    (h : c args' { loc := [], heap := st.heap.take T ++ hs, lo := T + hs.length, dep := st.dep } = some (v, st2)) (hv : isV v = true) : canon T c args st = some (v, st) := by
  unfold canon
  rw [if_pos hT]
  simp only [hc, h]
  cases v <;> first | rfl | cases hv
theorem canon_ref {c : List CV → M CV} {T : Nat} {args args' : List CV} {hs : List CO} {ks : List Nat} {k : Nat} {o : CO} {st2 : St} (hT : topFlat T st.heap = true) (hc : cpL (cpV st.heap T 3) args ([], []) = some (args', hs, ks))
    (h : c args' { loc := [], heap := st.heap.take T ++ hs, lo := T + hs.length, dep := st.dep } = some (.ref k, st2)) (hk : T + hs.length ≤ k) (ho : st2.heap[k]? = some o) (hf : flat T o = true) : canon T c args st = some (.ref st.heap.length, { st with heap := st.heap ++ [o] }) := by
  unfold canon
  rw [if_pos hT]
  simp only [hc, h]
  rw [if_neg (by omega), if_neg (by omega)]
  simp only [ho, hf, if_true]
theorem E.callv {f : Addr} {xs : List CE} {args args' : List CV} {hs : List CO} {ks : List Nat} {v : CV} {st2 : St} (ha : Es P xs st args st1) (hT : topFlat P.top st1.heap = true) (hc : cpL (cpV st1.heap P.top 3) args ([], []) = some (args', hs, ks))
    (h : C P f args' { loc := [], heap := st1.heap.take P.top ++ hs, lo := P.top + hs.length, dep := st1.dep } v st2) (hv : isV v = true) : E P (.callf f true xs) st v st1 := by
  refine JM.up (JM.bnd (k := fun s vs => if true then canon P.top (s.c f) vs else s.c f vs) ha ?_) fun _ => rfl
  obtain ⟨n, h⟩ := h
  exact ⟨n, fun m hm => canon_ok hT hc (h m hm) hv⟩
theorem E.callo {f : Addr} {xs : List CE} {args args' : List CV} {hs : List CO} {ks : List Nat} {k : Nat} {o : CO} {st2 : St} (ha : Es P xs st args st1) (hT : topFlat P.top st1.heap = true) (hc : cpL (cpV st1.heap P.top 3) args ([], []) = some (args', hs, ks))
    (h : C P f args' { loc := [], heap := st1.heap.take P.top ++ hs, lo := P.top + hs.length, dep := st1.dep } (.ref k) st2) (hk : P.top + hs.length ≤ k) (ho : st2.heap[k]? = some o) (hf : flat P.top o = true) : E P (.callf f true xs) st (.ref st1.heap.length) { st1 with heap := st1.heap ++ [o] } := by
  refine JM.up (JM.bnd (k := fun s vs => if true then canon P.top (s.c f) vs else s.c f vs) ha ?_) fun _ => rfl
  obtain ⟨n, h⟩ := h
  exact ⟨n, fun m hm => canon_ref hT hc (h m hm) hk ho hf⟩
theorem E.callf {f : Addr} {xs : List CE} {args : List CV} {v : CV} (ha : Es P xs st args st1) (h : C P f args st1 v st') : E P (.callf f false xs) st v st' := JM.up (JM.bnd (k := fun s vs => if false then canon P.top (s.c f) vs else s.c f vs) ha h) fun _ => rfl
theorem E.callm {o : CE} {x : Str} {xs : List CE} {args : List CV} {v : CV} {k : Nat} {co : CO} {c : Cls} {f : Addr} (ho : E P o st (.ref k) st1) (hk : st1.heap[k]? = some co) (hc : (isSelf x co).bind P.cls = some c) (hf : c.meths.lookup x = some f) (ha : Es P xs st1 args st2)
    (h : C P f (.ref k :: args) st2 v st') : E P (.callm o x false xs none) st v st' := by
  refine JM.up (JM.bnd (k := fun s v => Mine.bnd (look v) fun q => match (isSelf x q.2).bind P.cls with
    | some c => match c.meths.lookup x with
      | some f => Mine.bnd (evs s xs) fun vs => Mine.bnd (starOf s none) fun ws => if false then frozen (s.c f (v :: vs ++ ws)) else s.c f (v :: vs ++ ws)
      | none => no
    | none => no) ho ?_) fun _ => rfl
  refine JM.bnd (a := (k, co)) (st1 := st1) (JM.pure (by unfold look; simp only [hk])) ?_
  simp only [hc, hf]
  refine JM.bnd (k := fun s vs => Mine.bnd (starOf s none) fun ws => if false then frozen (s.c f (.ref k :: vs ++ ws)) else s.c f (.ref k :: vs ++ ws)) ha ?_
  refine JM.bnd (c := fun s => starOf s none) (a := []) (JM.rt _) ?_
  simpa using h
noncomputable def calleeSt (fn : Fn) (args : List CV) (st : St) : St := { loc := (boundV fn args st).map some ++ List.replicate (fn.ns - (boundV fn args st).length) none, heap := boundH fn args st, lo := st.lo, dep := st.dep - 1 }
noncomputable def callOk (fn : Fn) (args : List CV) (st : St) : Bool := decide ((givenV fn args).length = fn.n) && (fn.va || decide (args.length ≤ fn.n)) && decide (st.dep ≠ 0) && decide (fn.n + 1 ≤ fn.ns) && decide (args.length ≤ 1000)
theorem C.ret {f : Addr} {fn : Fn} {args : List CV} {v : CV} {st2 : St} (hf : P.fn f = some fn) (hok : callOk fn args st = true) (h : B P fn.body (calleeSt fn args st) (.ret v) st2) : C P f args st v { st with heap := st2.heap } := by
  unfold callOk at hok
  simp only [Bool.and_eq_true, Bool.or_eq_true, decide_eq_true_eq] at hok
  obtain ⟨n, h⟩ := h
  refine ⟨n + 1, fun m hm => ?_⟩
  obtain ⟨k, rfl⟩ : ∃ k, m = k + 1 := ⟨m - 1, by omega⟩
  have := h k (by omega)
  dsimp only at this
  show stepC P (run P k) f args st = _
  unfold stepC
  unfold calleeSt at this
  simp only [hf]
  rw [if_pos ⟨hok.1.1.1.1, hok.1.1.1.2, hok.1.1.2, hok.1.2, hok.2⟩, this]
theorem C.next {f : Addr} {fn : Fn} {args : List CV} {st2 : St} (hf : P.fn f = some fn) (hok : callOk fn args st = true) (h : B P fn.body (calleeSt fn args st) .next st2) : C P f args st .none { st with heap := st2.heap } := by
  unfold callOk at hok
  simp only [Bool.and_eq_true, Bool.or_eq_true, decide_eq_true_eq] at hok
  obtain ⟨n, h⟩ := h
  refine ⟨n + 1, fun m hm => ?_⟩
  obtain ⟨k, rfl⟩ : ∃ k, m = k + 1 := ⟨m - 1, by omega⟩
  have := h k (by omega)
  dsimp only at this
  show stepC P (run P k) f args st = _
  unfold stepC
  unfold calleeSt at this
  simp only [hf]
  rw [if_pos ⟨hok.1.1.1.1, hok.1.1.1.2, hok.1.1.2, hok.1.2, hok.2⟩, this]
theorem G.done {i : It} {ts : List Nat} {cs : List CE} {el : CE} {acc : List CV} (h : nextI i st = some none) : G P i ts cs el acc st acc st := JM.up (c := fun _ => Mine.rt acc) (JM.rt _) fun n => by
  show stepG (run P n) i ts cs el acc st = _
  unfold stepG; rw [h]; rfl
theorem G.turn {i i' : It} {ts : List Nat} {cs : List CE} {el : CE} {acc r : List CV} {w : Item} {u : Unit} {v : CV} (h : nextI i st = some (some (w, i'))) (ha : asgI (tsT ts) w st = some (u, st1)) (hc : JM P (fun s => allT s cs) st1 true st2) (he : E P el st2 v st3) (hn : G P i' ts cs el (acc ++ [v]) st3 r st') : G P i ts cs el acc st r st' := by
  refine JM.up (c := fun s => Mine.bnd (asgI (tsT ts) w) fun _ => Mine.bnd (allT s cs) fun ok => if ok then Mine.bnd (s.e el) fun v => s.g i' ts cs el (acc ++ [v]) else s.g i' ts cs el acc) ?_ fun n => ?_
  · exact JM.bnd (k := fun s _ => Mine.bnd (allT s cs) fun ok => if ok then Mine.bnd (s.e el) fun v => s.g i' ts cs el (acc ++ [v]) else s.g i' ts cs el acc) (JM.pure ha) (JM.bnd (k := fun s ok => if ok then Mine.bnd (s.e el) fun v => s.g i' ts cs el (acc ++ [v]) else s.g i' ts cs el acc) hc (JM.bnd (k := fun s v => s.g i' ts cs el (acc ++ [v])) he hn))
  · show stepG (run P n) i ts cs el acc st = _
    unfold stepG; rw [h]
theorem All.nil : JM P (fun s => allT s []) st true st := JM.rt _
theorem E.comp {el : CE} {ts : List Nat} {it : CI} {cs : List CE} {i : It} {vs : List CV} {st2 : St} (h : I P it st i st1) (hg : G P i ts cs el [] { st1 with loc := clearL ts st1.loc, lo := st1.heap.length, dep := min st1.dep 20 } vs st2) (hu : vs.all (under st1.heap.length) = true) (hl : lenOk vs = true) :
    E P (.comp el ts it cs) st (.ref st1.heap.length) { st1 with heap := st1.heap ++ [.list vs] } := by
  refine JM.up (JM.bnd (k := fun s i => fun st =>
    let n := st.heap.length
    match s.g i ts cs el [] { st with loc := clearL ts st.loc, lo := n, dep := min st.dep 20 } with
    | none => none
    | some (vs, _) => if vs.all (under n) && lenOk vs then some (.ref n, { st with heap := st.heap ++ [.list vs] }) else none) h ?_) fun _ => rfl
  obtain ⟨n, hg⟩ := hg
  refine ⟨n, fun m hm => ?_⟩
  dsimp only
  have := hg m hm
  dsimp only at this
  rw [this]
  simp only [hu, hl, Bool.and_self, if_true]
end
end Pl
end Mine
end

section
set_option genSizeOf false
set_option genInjectivity false
namespace Mine
namespace Pl
noncomputable abbrev sN2i : Str := ⟨#[95, 110, 111, 100, 101, 50, 105, 110, 102, 111]⟩
noncomputable abbrev sRdy : Str := ⟨#[95, 114, 101, 97, 100, 121, 95, 110, 111, 100, 101, 115]⟩
noncomputable abbrev sPo : Str := ⟨#[95, 110, 112, 97, 115, 115, 101, 100, 111, 117, 116]⟩
noncomputable abbrev sNf : Str := ⟨#[95, 110, 102, 105, 110, 105, 115, 104, 101, 100]⟩
noncomputable abbrev sNode : Str := ⟨#[110, 111, 100, 101]⟩
noncomputable abbrev sNp : Str := ⟨#[110, 112, 114, 101, 100, 101, 99, 101, 115, 115, 111, 114, 115]⟩
noncomputable abbrev sSuc : Str := ⟨#[115, 117, 99, 99, 101, 115, 115, 111, 114, 115]⟩
noncomputable abbrev mInfo : Str := ⟨#[95, 103, 101, 116, 95, 110, 111, 100, 101, 105, 110, 102, 111]⟩
noncomputable abbrev mCycle : Str := ⟨#[95, 102, 105, 110, 100, 95, 99, 121, 99, 108, 101]⟩
noncomputable def bNode : List CS := [.assign (.attr (.var 0) sNode) (.var 1),
    .assign (.attr (.var 0) sNp) (.const (.int 0)),
    .assign (.attr (.var 0) sSuc) (.list [])]
noncomputable def bInit : List CS := [.assign (.attr (.var 0) sN2i) (.dict0 true),
    .assign (.attr (.var 0) sRdy) (.const .none),
    .assign (.attr (.var 0) sPo) (.const (.int 0)),
    .assign (.attr (.var 0) sNf) (.const (.int 0)),
    .ite (.cmp .IsNot (.var 1) (.const .none)) [.never] []]
noncomputable def bInfo (CN : Addr) : List CS := [.ite (.cmp .Is (.walrus 2 (.meth .get (.attr (.var 0) sN2i) [.var 1])) (.const .none)) [.assign2 (.sub (.attr (.var 0) sN2i) (.var 1)) (.var 2) (.new CN [.var 1])] [],
    .ret (.var 2)]
noncomputable def bAdd : List CS := [.ite (.cmp .IsNot (.attr (.var 0) sRdy) (.const .none)) [.never] [],
    .assign (.var 3) (.callm (.var 0) mInfo false [.var 1] none),
    .augattr (.var 3) sNp .Add (.prim .len [.var 2]),
    .for (.var 4) (.plain (.var 2)) [.assign (.var 5) (.callm (.var 0) mInfo false [.var 4] none),
    .expr (.meth .append (.attr (.var 5) sSuc) [.var 1])] []]
noncomputable def bPrep : List CS := [.ite (.cmp .IsNot (.attr (.var 0) sRdy) (.const .none)) [.never] [],
    .assign (.attr (.var 0) sRdy) (.comp (.attr (.var 2) sNode) [2] (.values (.attr (.var 0) sN2i)) [.cmp .Eq (.attr (.var 2) sNp) (.const (.int 0))]),
    .assign (.var 1) (.callm (.var 0) mCycle true [] none),
    .ite (.var 1) [.never] []]
noncomputable def bReady : List CS := [.ite (.cmp .Is (.attr (.var 0) sRdy) (.const .none)) [.never] [],
    .assign (.var 1) (.prim .tupleOf [.attr (.var 0) sRdy]),
    .assign (.var 2) (.attr (.var 0) sN2i),
    .for (.var 3) (.plain (.var 1)) [.assign (.attr (.sub (.var 2) (.var 3)) sNp) (.glob (.int (-1)))] [],
    .expr (.meth .clear (.attr (.var 0) sRdy) []),
    .augattr (.var 0) sPo .Add (.prim .len [.var 1]),
    .ret (.var 1)]
noncomputable def bActive : List CS := [.ite (.cmp .Is (.attr (.var 0) sRdy) (.const .none)) [.never] [],
    .ret (.or (.cmp .Lt (.attr (.var 0) sNf) (.attr (.var 0) sPo)) (.prim .boolOf [.attr (.var 0) sRdy]))]
noncomputable def bDone : List CS := [.ite (.cmp .Is (.attr (.var 0) sRdy) (.const .none)) [.never] [],
    .assign (.var 2) (.attr (.var 0) sN2i),
    .for (.var 3) (.plain (.var 1)) [.ite (.cmp .Is (.walrus 4 (.meth .get (.var 2) [.var 3])) (.const .none)) [.never] [],
    .assign (.var 5) (.attr (.var 4) sNp),
    .ite (.cmp .NotEq (.var 5) (.glob (.int (-1)))) [.ite (.cmp .GtE (.var 5) (.const (.int 0))) [.never] [.ite (.cmp .Eq (.var 5) (.glob (.int (-2)))) [.never] [.never]]] [],
    .assign (.attr (.var 4) sNp) (.glob (.int (-2))),
    .for (.var 6) (.plain (.attr (.var 4) sSuc)) [.assign (.var 7) (.sub (.var 2) (.var 6)),
    .augattr (.var 7) sNp .Sub (.const (.int 1)),
    .ite (.cmp .Eq (.attr (.var 7) sNp) (.const (.int 0))) [.expr (.meth .append (.attr (.var 0) sRdy) [.var 6])] []] [],
    .augattr (.var 0) sNf .Add (.const (.int 1))] []]
noncomputable def bCycle : List CS := [.assign (.var 1) (.attr (.var 0) sN2i),
    .assign (.var 2) (.list []),
    .assign (.var 3) (.list []),
    .assign (.var 4) (.prim .setNew []),
    .assign (.var 5) (.dict0 true),
    .for (.var 6) (.plain (.var 1)) [.ite (.cmp .In (.var 6) (.var 4)) [.cont] [],
    .while (.const (.bool true)) [.ite (.cmp .In (.var 6) (.var 4)) [.ite (.cmp .In (.var 6) (.var 5)) [.ret (.bin .Add (.slice (.var 2) (some (.sub (.var 5) (.var 6))) none none) (.list [.var 6]))] []] [.expr (.meth .sadd (.var 4) [.var 6]),
    .expr (.meth .append (.var 3) [.prim .next [.prim .iterOf [.attr (.sub (.var 1) (.var 6)) sSuc]]]),
    .assign (.sub (.var 5) (.var 6)) (.prim .len [.var 2]),
    .expr (.meth .append (.var 2) [.var 6])],
    .while (.var 2) [.tryNext 6 (.sub (.var 3) (.neg (.const (.int 1)))) [.del (.var 5) (.meth .pop (.var 2) []),
    .expr (.meth .pop (.var 3) [])]] [.brk]] []] [],
    .ret (.const .none)]
theorem get_set {H : List CO} {a : Nat} {o o' : CO} (h : H[a]? = some o') : (H.set a o)[a]? = some o := List.getElem?_set_self (List.getElem?_eq_some_iff.mp h).1
theorem get_ne {H : List CO} {a b : Nat} {o : CO} (h : a ≠ b) : (H.set a o)[b]? = H[b]? := List.getElem?_set_ne h
theorem ne_of {H : List CO} {a b : Nat} {o o' : CO} (h : H[a]? = some o) (h' : H[b]? = some o') (n : o ≠ o') : a ≠ b := fun e => by subst e; rw [h] at h'; cases h'; exact n rfl
theorem get_push {H : List CO} {a : Nat} {o o' : CO} (h : H[a]? = some o) : (H ++ [o'])[a]? = some o := by
  rw [List.getElem?_append_left (List.getElem?_eq_some_iff.mp h).1]; exact h
theorem get_end {H : List CO} {o : CO} : (H ++ [o])[H.length]? = some o := by simp
noncomputable def plainO : CO → Bool
  | .inst _ _ => false
  | .slots _ _ => false
  | _ => true
structure Fr (r : Nat) (H H' : List CO) : Prop where
  len : H.length ≤ H'.length
  at_ : ∀ (k : Nat) (o : CO), H[k]? = some o → k ≠ r → plainO o = true → H'[k]? = some o
theorem Fr.refl {r : Nat} {H : List CO} : Fr r H H := ⟨Nat.le_refl _, fun _ _ h _ _ => h⟩
theorem Fr.trans {r : Nat} {H H' H'' : List CO} (a : Fr r H H') (b : Fr r H' H'') : Fr r H H'' := ⟨Nat.le_trans a.len b.len, fun k o h n p => b.at_ k o (a.at_ k o h n p) n p⟩
theorem Fr.push {r : Nat} {H : List CO} {o : CO} : Fr r H (H ++ [o]) := ⟨by simp, fun _ _ h _ _ => get_push h⟩
theorem Fr.set {r a : Nat} {H : List CO} {o o' : CO} (h : H[a]? = some o) (hp : plainO o = false) : Fr r H (H.set a o') := ⟨by simp, fun k p hk _ hq => by
  rw [get_ne (ne_of h hk fun e => by rw [e, hq] at hp; cases hp)]; exact hk⟩
theorem Fr.setR {r : Nat} {H : List CO} {o' : CO} : Fr r H (H.set r o') := ⟨by simp, fun k p hk n _ => by rw [get_ne (fun e => n e.symm)]; exact hk⟩
noncomputable def upd (np : Str → Int) (y : Str) (v : Int) : Str → Int := fun z => if z = y then v else np z
noncomputable def updL (np : Str → Int) (v : Int) : List Str → Str → Int
  | [] => np
  | y :: ys => updL (upd np y v) v ys
noncomputable def doneS (np : Str → Int) (rd : List Str) : List Str → (Str → Int) × List Str
  | [] => (np, rd)
  | y :: ys => doneS (upd np y (np y - 1)) (if np y - 1 = 0 then rd ++ [y] else rd) ys
structure SrtP (P : Prog) (CN CT : Addr) : Prop where
  ct : ∃ k, P.cls CT = some k ∧ k.slot = false
  cn : ∃ k, P.cls CN = some k ∧ k.slot = true ∧ k.attrs = [sNode, sNp, sSuc]
structure Srt (CN CT : Addr) (H : List CO) (lo s d r ep : Nat) (ns : List (Str × Nat × Nat)) (np : Str → Int) (sc : Str → List Str) (rd : List Str) (po nf : Int) : Prop where
  hs : H[s]? = some (.inst CT [(sN2i, .ref d), (sRdy, .ref r), (sPo, .int po), (sNf, .int nf)])
  hd : H[d]? = some (.dictS (ns.map fun x => (x.1, CV.ref x.2.1)) ep)
  hr : H[r]? = some (.list (rd.map .str))
  hi : ∀ x ∈ ns, H[x.2.1]? = some (.slots CN [some (.str x.1), some (.int (np x.1)), some (.ref x.2.2)])
  hu : ∀ x ∈ ns, H[x.2.2]? = some (.list ((sc x.1).map .str))
  nd : (ns.map (·.1)).Nodup
  ru : ∀ x ∈ ns, x.2.2 ≠ r
  ls : lo ≤ s
  lr : lo ≤ r
  li : ∀ x ∈ ns, lo ≤ x.2.1
section
variable {P : Prog} {CN CT : Addr} {H : List CO} {lo s d r ep : Nat} {ns : List (Str × Nat × Nat)} {np : Str → Int} {sc : Str → List Str} {rd : List Str} {po nf : Int}
theorem ns_one (nd : (ns.map (·.1)).Nodup) {x y : Str × Nat × Nat} (hx : x ∈ ns) (hy : y ∈ ns) (e : x.1 = y.1) : x = y := by
  induction ns with
  | nil => cases hx
  | cons z r ih =>
    simp only [List.map_cons, List.nodup_cons] at nd
    rcases List.mem_cons.mp hx with rfl | hx' <;> rcases List.mem_cons.mp hy with rfl | hy'
    · rfl
    · exact absurd (List.mem_map.mpr ⟨y, hy', e.symm⟩) nd.1
    · exact absurd (List.mem_map.mpr ⟨x, hx', e⟩) nd.1
    · exact ih nd.2 hx' hy'
theorem lk_ns (nd : (ns.map (·.1)).Nodup) {x : Str × Nat × Nat} (hx : x ∈ ns) : lkS (ns.map fun x => (x.1, CV.ref x.2.1)) x.1 = some (.ref x.2.1) := by
  induction ns with
  | nil => cases hx
  | cons z r ih =>
    simp only [List.map_cons, List.nodup_cons] at nd
    show (if z.1 = x.1 then some (CV.ref z.2.1) else lkS _ _) = _
    rcases List.mem_cons.mp hx with rfl | hx'
    · rw [if_pos rfl]
    · rw [if_neg (fun e => nd.1 (List.mem_map.mpr ⟨x, hx', e.symm⟩))]
      exact ih nd.2 hx'
theorem Srt.info (R : Srt CN CT H lo s d r ep ns np sc rd po nf) {x y : Str × Nat × Nat} (hx : x ∈ ns) (hy : y ∈ ns) (e : x.2.1 = y.2.1) : x = y := by
  have h1 := R.hi x hx
  have h2 := R.hi y hy
  rw [e, h2] at h1
  simp only [Option.some.injEq, CO.slots.injEq, List.cons.injEq, CV.str.injEq, true_and] at h1
  exact ns_one R.nd hx hy h1.1.symm
theorem Srt.setNp (R : Srt CN CT H lo s d r ep ns np sc rd po nf) {x : Str × Nat × Nat} (hx : x ∈ ns) (v : Int) : Srt CN CT (H.set x.2.1 (.slots CN [some (.str x.1), some (.int v), some (.ref x.2.2)])) lo s d r ep ns (upd np x.1 v) sc rd po nf := by
  have h0 := R.hi x hx
  refine ⟨?_, ?_, ?_, fun y hy => ?_, fun y hy => ?_, R.nd, R.ru, R.ls, R.lr, R.li⟩
  · rw [get_ne (ne_of h0 R.hs (fun e => nomatch e))]; exact R.hs
  · rw [get_ne (ne_of h0 R.hd (fun e => nomatch e))]; exact R.hd
  · rw [get_ne (ne_of h0 R.hr (fun e => nomatch e))]; exact R.hr
  · by_cases e : y.1 = x.1
    · have := ns_one R.nd hy hx e
      subst this
      rw [get_set h0]
      unfold upd; rw [if_pos rfl]
    · rw [get_ne (fun q => e (by rw [R.info hx hy q]))]
      unfold upd; rw [if_neg e]; exact R.hi y hy
  · rw [get_ne (ne_of h0 (R.hu y hy) (fun e => nomatch e))]; exact R.hu y hy
theorem Srt.setRd (R : Srt CN CT H lo s d r ep ns np sc rd po nf) (rd' : List Str) : Srt CN CT (H.set r (.list (rd'.map .str))) lo s d r ep ns np sc rd' po nf := by
  refine ⟨?_, ?_, get_set R.hr, fun y hy => ?_, fun y hy => ?_, R.nd, R.ru, R.ls, R.lr, R.li⟩
  · rw [get_ne (ne_of R.hr R.hs (fun e => nomatch e))]; exact R.hs
  · rw [get_ne (ne_of R.hr R.hd (fun e => nomatch e))]; exact R.hd
  · rw [get_ne (ne_of R.hr (R.hi y hy) (fun e => nomatch e))]; exact R.hi y hy
  · rw [get_ne (fun e => R.ru y hy e.symm)]; exact R.hu y hy
theorem Srt.setAt (R : Srt CN CT H lo s d r ep ns np sc rd po nf) (po' nf' : Int) : Srt CN CT (H.set s (.inst CT [(sN2i, .ref d), (sRdy, .ref r), (sPo, .int po'), (sNf, .int nf')])) lo s d r ep ns np sc rd po' nf' := by
  refine ⟨get_set R.hs, ?_, ?_, fun y hy => ?_, fun y hy => ?_, R.nd, R.ru, R.ls, R.lr, R.li⟩
  · rw [get_ne (ne_of R.hs R.hd (fun e => nomatch e))]; exact R.hd
  · rw [get_ne (ne_of R.hs R.hr (fun e => nomatch e))]; exact R.hr
  · rw [get_ne (ne_of R.hs (R.hi y hy) (fun e => nomatch e))]; exact R.hi y hy
  · rw [get_ne (ne_of R.hs (R.hu y hy) (fun e => nomatch e))]; exact R.hu y hy
theorem Srt.push (R : Srt CN CT H lo s d r ep ns np sc rd po nf) (o : CO) : Srt CN CT (H ++ [o]) lo s d r ep ns np sc rd po nf :=
  ⟨get_push R.hs, get_push R.hd, get_push R.hr, fun x hx => get_push (R.hi x hx), fun x hx => get_push (R.hu x hx), R.nd, R.ru, R.ls, R.lr, R.li⟩
theorem Srt.other (R : Srt CN CT H lo s d r ep ns np sc rd po nf) {k : Nat} {o o' : CO} (hk : H[k]? = some o) (ho : ∃ xs, o = .list xs) (hr : k ≠ r) (hu : ∀ x ∈ ns, k ≠ x.2.2) : Srt CN CT (H.set k o') lo s d r ep ns np sc rd po nf := by
  obtain ⟨xs, rfl⟩ := ho
  refine ⟨?_, ?_, ?_, fun y hy => ?_, fun y hy => ?_, R.nd, R.ru, R.ls, R.lr, R.li⟩
  · rw [get_ne (ne_of hk R.hs (fun e => nomatch e))]; exact R.hs
  · rw [get_ne (ne_of hk R.hd (fun e => nomatch e))]; exact R.hd
  · rw [get_ne hr]; exact R.hr
  · rw [get_ne (ne_of hk (R.hi y hy) (fun e => nomatch e))]; exact R.hi y hy
  · rw [get_ne (hu y hy)]; exact R.hu y hy
variable {st : St}
theorem ga_s (hP : SrtP P CN CT) {as : List (Str × CV)} {x : Str} {v : CV} (hs : st.heap[s]? = some (.inst CT as)) (hl : lkS as x = some v) (hv : ∀ u, v ≠ .lit u) : getA P (.ref s) x st = some (v, st) := by
  obtain ⟨k, h1, h2⟩ := hP.ct
  unfold getA bnd look
  simp only [hs, h1, h2, hl, Bool.false_eq_true, if_false]
  cases v <;> first | rfl | exact absurd rfl (hv _)
theorem sa_s (hP : SrtP P CN CT) {as : List (Str × CV)} {x : Str} {v : CV} (hs : st.heap[s]? = some (.inst CT as)) (hl : as.length ≤ 100) (hlo : st.lo ≤ s) : setA P (.ref s) x v st = some ((), { st with heap := st.heap.set s (.inst CT (putS as x v)) }) := by
  obtain ⟨k, h1, h2⟩ := hP.ct
  unfold setA bnd look put
  simp [hs, h1, h2, hl, hlo]
theorem ga_i (hP : SrtP P CN CT) {i : Nat} {a b c : Option CV} {v : CV} (hs : st.heap[i]? = some (.slots CN [a, b, c])) (x : Str) (hx : (x = sNode ∧ a = some v) ∨ (x = sNp ∧ b = some v) ∨ (x = sSuc ∧ c = some v)) (hv : ∀ u, v ≠ .lit u) : getA P (.ref i) x st = some (v, st) := by
  obtain ⟨k, h1, h2, h3⟩ := hP.cn
  unfold getA bnd look
  simp only [hs, h1, h2, h3, if_true]
  rcases hx with ⟨rfl, rfl⟩ | ⟨rfl, rfl⟩ | ⟨rfl, rfl⟩
  · show (match (some (some v) : Option (Option CV)) with | some (some (.lit _)) => no | some (some r) => rt r | _ => no : M CV) st = _
    cases v <;> first | rfl | exact absurd rfl (hv _)
  · show (match (some (some v) : Option (Option CV)) with | some (some (.lit _)) => no | some (some r) => rt r | _ => no : M CV) st = _
    cases v <;> first | rfl | exact absurd rfl (hv _)
  · show (match (some (some v) : Option (Option CV)) with | some (some (.lit _)) => no | some (some r) => rt r | _ => no : M CV) st = _
    cases v <;> first | rfl | exact absurd rfl (hv _)
theorem sa_np (hP : SrtP P CN CT) {i : Nat} {a b c : Option CV} {v : CV} (hs : st.heap[i]? = some (.slots CN [a, b, c])) (hlo : st.lo ≤ i) : setA P (.ref i) sNp v st = some ((), { st with heap := st.heap.set i (.slots CN [a, some v, c]) }) := by
  obtain ⟨k, h1, h2, h3⟩ := hP.cn
  unfold setA bnd look put
  simp only [hs, h1, h2, h3, if_true]
  show (if st.lo ≤ i then some ((), { st with heap := st.heap.set i (CO.slots CN [a, some v, c]) }) else none) = _
  rw [if_pos hlo]
theorem emp (xs : List Str) : (xs.map CV.str).isEmpty = xs.isEmpty := by cases xs <;> rfl
theorem active_ok (hP : SrtP P CN CT) {dp : Nat} (R : Srt CN CT H lo s d r ep ns np sc rd po nf) (hl : rd.length ≤ 1000000) :
    B P bActive ⟨[some (.ref s), none], H, lo, dp⟩ (.ret (.bool (decide (nf < po) || !rd.isEmpty))) ⟨[some (.ref s), none], H, lo, dp⟩ := by
  have g1 : ∀ {x v}, lkS [(sN2i, CV.ref d), (sRdy, CV.ref r), (sPo, CV.int po), (sNf, CV.int nf)] x = some v → (∀ u, v ≠ .lit u) → E P (.attr (.var 0) x) ⟨[some (.ref s), none], H, lo, dp⟩ v ⟨[some (.ref s), none], H, lo, dp⟩ := fun h1 h2 => E.attr (E.var rfl) (ga_s hP R.hs h1 h2)
  have e1 : E P (.attr (.var 0) sRdy) ⟨[some (.ref s), none], H, lo, dp⟩ (.ref r) _ := g1 rfl (fun _ e => nomatch e)
  have e2 : E P (.attr (.var 0) sNf) ⟨[some (.ref s), none], H, lo, dp⟩ (.int nf) _ := g1 rfl (fun _ e => nomatch e)
  have e3 : E P (.attr (.var 0) sPo) ⟨[some (.ref s), none], H, lo, dp⟩ (.int po) _ := g1 rfl (fun _ e => nomatch e)
  refine B.cons (S.ff (T.bool (E.cmp e1 E.const rfl)) B.nil) (B.stop (S.ret ?_) (fun e => nomatch e))
  have e4 : E P (.cmp .Lt (.attr (.var 0) sNf) (.attr (.var 0) sPo)) ⟨[some (.ref s), none], H, lo, dp⟩ (.bool (decide (nf < po))) _ := E.cmp e2 e3 rfl
  have e5 : E P (.prim .boolOf [.attr (.var 0) sRdy]) ⟨[some (.ref s), none], H, lo, dp⟩ (.bool (!rd.isEmpty)) _ := E.prim (Es.one e1) (by
    have hl' : lenOk (rd.map CV.str) = true := by simpa [lenOk] using hl
    show Mine.bnd (truth (.ref r)) _ _ = _
    unfold truth Mine.bnd look
    simp only [R.hr, hl', if_true]
    rw [emp]; rfl)
  refine JM.up (JM.bnd (k := fun s x => Mine.bnd (truth x) fun c => if c then Mine.rt x else s.e (.prim .boolOf [.attr (.var 0) sRdy])) e4 (JM.bnd (c := fun _ => truth _) (a := decide (nf < po)) (JM.pure rfl) ?_)) fun _ => rfl
  cases decide (nf < po) with
  | true => exact JM.rt _
  | false => exact e5
end
end Pl
end Mine
end

section
set_option genSizeOf false
set_option genInjectivity false
namespace Mine
namespace Pl
section
variable {P : Prog} {st st1 st2 st3 st' : St}
theorem S.augattr {o x' : CE} {x : Str} {op : Operator} {v old y z : CV} {u : Unit} (ho : E P o st v st1) (hg : getA P v x st1 = some (old, st1)) (he : E P x' st1 y st2) (ha : augV op old y st2 = some (z, st3)) (hs : setA P v x z st3 = some (u, st')) : S P (.augattr o x op x') st .next st' :=
  JM.up (JM.bnd (k := fun s v => Mine.bnd (getA P v x) fun old => Mine.bnd (s.e x') fun y => Mine.bnd (augV op old y) fun z => Mine.bnd (setA P v x z) fun _ => Mine.rt CF.next) ho
    (JM.bnd (k := fun s old => Mine.bnd (s.e x') fun y => Mine.bnd (augV op old y) fun z => Mine.bnd (setA P v x z) fun _ => Mine.rt CF.next) (JM.pure hg)
    (JM.bnd (k := fun _ y => Mine.bnd (augV op old y) fun z => Mine.bnd (setA P v x z) fun _ => Mine.rt CF.next) he
    (JM.bnd (k := fun _ z => Mine.bnd (setA P v x z) fun _ => Mine.rt CF.next) (JM.pure ha) (JM.bnd (k := fun _ _ => Mine.rt CF.next) (JM.pure hs) (JM.rt _)))))) fun _ => rfl
theorem S.aug {i : Nat} {x' : CE} {op : Operator} {old y z : CV} (hg : st.loc[i]? = some (some old)) (he : E P x' st y st2) (ha : augV op old y st2 = some (z, st3)) (hi : i < st3.loc.length) : S P (.aug i op x') st .next { st3 with loc := st3.loc.set i (some z) } :=
  JM.up (JM.bnd (c := fun _ => getL i) (k := fun s old => Mine.bnd (s.e x') fun y => Mine.bnd (augV op old y) fun z => Mine.bnd (setL i z) fun _ => Mine.rt CF.next) (a := old) (st1 := st) (JM.pure (by unfold getL; rw [hg]))
    (JM.bnd (k := fun _ y => Mine.bnd (augV op old y) fun z => Mine.bnd (setL i z) fun _ => Mine.rt CF.next) he
    (JM.bnd (k := fun _ z => Mine.bnd (setL i z) fun _ => Mine.rt CF.next) (JM.pure ha) (JM.bnd (k := fun _ _ => Mine.rt CF.next) (JM.pure (setL_ok hi)) (JM.rt _))))) fun _ => rfl
theorem S.attr {o e : CE} {x : Str} {v w : CV} {u : Unit} (h : E P e st v st1) (ho : E P o st1 w st2) (hs : setA P w x v st2 = some (u, st')) : S P (.assign (.attr o x) e) st .next st' :=
  S.assign h (JM.bnd (k := fun _ w => setA P w x v) ho (JM.pure hs))
theorem look_ok {k : Nat} {o : CO} (h : st.heap[k]? = some o) : look (.ref k) st = some ((k, o), st) := by unfold look; simp only [h]
theorem I.tuple {x : CE} {t : Nat} {xs : List CV} (h : E P x st (.ref t) st1) (ht : st1.heap[t]? = some (.tuple xs)) : I P (.plain x) st (.seq true t 0) st1 :=
  JM.bnd (k := fun _ v => Mine.bnd (look v) fun o => match o.2 with
    | .list _ => Mine.rt (It.seq false o.1 0)
    | .tuple _ => Mine.rt (It.seq true o.1 0)
    | .dictS es ep => if ep = unk then no else Mine.rt (It.keys o.1 ep es.length 0)
    | .dictI es ep => if ep = unk then no else Mine.rt (It.keys o.1 ep es.length 0)
    | _ => no) h (JM.bnd (JM.pure (look_ok ht)) (JM.rt _))
theorem I.list {x : CE} {t : Nat} {xs : List CV} (h : E P x st (.ref t) st1) (ht : st1.heap[t]? = some (.list xs)) : I P (.plain x) st (.seq false t 0) st1 :=
  JM.bnd (k := fun _ v => Mine.bnd (look v) fun o => match o.2 with
    | .list _ => Mine.rt (It.seq false o.1 0)
    | .tuple _ => Mine.rt (It.seq true o.1 0)
    | .dictS es ep => if ep = unk then no else Mine.rt (It.keys o.1 ep es.length 0)
    | .dictI es ep => if ep = unk then no else Mine.rt (It.keys o.1 ep es.length 0)
    | _ => no) h (JM.bnd (JM.pure (look_ok ht)) (JM.rt _))
theorem nx_tuple {t i : Nat} {xs : List CV} (h : st.heap[t]? = some (.tuple xs)) (hd : st.dep ≠ 0) : nextI (.seq true t i) st = some (xs[i]?.map fun v => (.one v, .seq true t (i + 1))) := by
  unfold nextI
  rw [if_neg hd]
  unfold nextI0
  simp only [h, Option.bind_some, seqOf, if_true]
  cases xs[i]? <;> rfl
theorem nx_list {t i : Nat} {xs : List CV} (h : st.heap[t]? = some (.list xs)) (hd : st.dep ≠ 0) : nextI (.seq false t i) st = some (xs[i]?.map fun v => (.one v, .seq false t (i + 1))) := by
  unfold nextI
  rw [if_neg hd]
  unfold nextI0
  simp only [h, Option.bind_some, seqOf, Bool.false_eq_true, if_false]
  cases xs[i]? <;> rfl
theorem mid {α β : Type} (f : α → β) (pre : List α) (y : α) (ys : List α) : ((pre ++ y :: ys).map f)[pre.length]? = some (f y) := by simp
theorem fin {α β : Type} (f : α → β) (pre : List α) : ((pre ++ []).map f)[pre.length]? = none := by simp
end
section
variable {P : Prog} {CN CT : Addr} {H : List CO} {lo s d r ep : Nat} {ns : List (Str × Nat × Nat)} {np : Str → Int} {sc : Str → List Str} {rd : List Str} {po nf : Int} {dp : Nat}
theorem names_at {y : Str} (h : y ∈ ns.map (·.1)) : ∃ x ∈ ns, x.1 = y := by
  obtain ⟨x, h1, h2⟩ := List.mem_map.mp h; exact ⟨x, h1, h2⟩
theorem Srt.subV {st : St} (R : Srt CN CT st.heap lo s d r ep ns np sc rd po nf) {x : Str × Nat × Nat} (hx : x ∈ ns) : subV (.ref d) (.str x.1) st = some (.ref x.2.1, st) := by
  show Mine.bnd (look (.ref d)) _ st = _
  unfold Mine.bnd look
  simp only [R.hd, lk_ns R.nd hx]; rfl
theorem ready_loop (hP : SrtP P CN CT) (hdp : dp ≠ 0) {t : Nat} {a0 a1 : Option CV} : ∀ (xs pre : List Str) {H : List CO} {np : Str → Int} {v3 : Option CV}, H[t]? = some (.tuple ((pre ++ xs).map .str)) → Srt CN CT H lo s d r ep ns np sc rd po nf → (∀ y ∈ xs, y ∈ ns.map (·.1)) →
    ∃ H' v3', Fo P (.seq true t pre.length) (.var 3) [.assign (.attr (.sub (.var 2) (.var 3)) sNp) (.glob (.int (-1)))] [] ⟨[a0, a1, some (.ref d), v3], H, lo, dp⟩ .next ⟨[a0, a1, some (.ref d), v3'], H', lo, dp⟩ ∧ Srt CN CT H' lo s d r ep ns (updL np (-1) xs) sc rd po nf ∧ Fr r H H' := by
  intro xs
  induction xs with
  | nil =>
    intro pre H np v3 ht R _
    refine ⟨H, v3, F.done ?_ B.nil, R, .refl⟩
    rw [nx_tuple ht hdp, fin]; rfl
  | cons y ys ih =>
    intro pre H np v3 ht R hy
    obtain ⟨x, hx, rfl⟩ := names_at (hy y (.head _))
    have ht' := ht
    rw [show pre ++ x.1 :: ys = (pre ++ [x.1]) ++ ys by simp] at ht'
    have hne : t ≠ r := fun e => by subst e; rw [R.hr] at ht; cases ht
    have hkeep : Fr r H (H.set x.2.1 (.slots CN [some (.str x.1), some (.int (-1)), some (.ref x.2.2)])) := Fr.set (R.hi x hx) rfl
    obtain ⟨H', v3', h1, h2, h3⟩ := ih (pre ++ [x.1]) (v3 := some (.str x.1)) (hkeep.at_ _ _ ht' hne rfl) (R.setNp hx (-1)) (fun z hz => hy z (.tail _ hz))
    refine ⟨H', v3', F.turn (w := .one (.str x.1)) (by rw [nx_tuple ht hdp, mid]; rfl) (u := ()) (st1 := ⟨[a0, a1, some (.ref d), some (.str x.1)], H, lo, dp⟩) rfl (f := .next) (B.cons (S.attr (u := ()) E.glob (E.sub (E.var rfl) (E.var rfl) (Srt.subV (st := ⟨[a0, a1, some (.ref d), some (.str x.1)], H, lo, dp⟩) R hx)) (sa_np hP (R.hi x hx) (R.li x hx))) B.nil) (.inl rfl) ?_, h2, hkeep.trans h3⟩
    rw [List.length_append] at h1
    exact h1
theorem lenS {xs : List Str} (h : xs.length ≤ 1000000) : lenOk (xs.map CV.str) = true := by simpa [lenOk] using h
theorem ready_ok (hP : SrtP P CN CT) (hdp : dp ≠ 0) (R : Srt CN CT H lo s d r ep ns np sc rd po nf) (hl : rd.length ≤ 1000000) (hrd : ∀ y ∈ rd, y ∈ ns.map (·.1)) :
    ∃ v3 H', B P bReady ⟨[some (.ref s), none, none, none], H, lo, dp⟩ (.ret (.ref H.length)) ⟨[some (.ref s), some (.ref H.length), some (.ref d), v3], H', lo, dp⟩ ∧ H'[H.length]? = some (.tuple (rd.map .str)) ∧ Srt CN CT H' lo s d r ep ns (updL np (-1) rd) sc [] (po + rd.length) nf ∧ Fr r H H' := by
  have g1 : ∀ {st : St} {x v}, st.heap[s]? = some (.inst CT [(sN2i, CV.ref d), (sRdy, CV.ref r), (sPo, CV.int po), (sNf, CV.int nf)]) → st.loc[0]? = some (some (.ref s)) → lkS [(sN2i, CV.ref d), (sRdy, CV.ref r), (sPo, CV.int po), (sNf, CV.int nf)] x = some v → (∀ u, v ≠ .lit u) → E P (.attr (.var 0) x) st v st := fun h0 h00 h1 h2 => E.attr (E.var h00) (ga_s hP h0 h1 h2)
  have R1 := R.push (.tuple (rd.map .str))
  have ht : (H ++ [CO.tuple (rd.map .str)])[H.length]? = some (.tuple (([] ++ rd).map .str)) := get_end
  obtain ⟨H2, v3, h1, R2, f2⟩ := ready_loop hP hdp (a0 := some (.ref s)) (a1 := some (.ref H.length)) rd [] (v3 := none) ht R1 hrd
  have hne : H.length ≠ r := fun e => by subst e; exact absurd (List.getElem?_eq_some_iff.mp R.hr).1 (Nat.lt_irrefl _)
  have ht2 := f2.at_ _ _ ht hne rfl
  have R3 := R2.setRd []
  have f3 : Fr r H2 (H2.set r (.list (([] : List Str).map .str))) := Fr.setR
  have R4 := R3.setAt (po + rd.length) nf
  have f4 : Fr r (H2.set r (.list (([] : List Str).map .str))) _ := Fr.set (o' := CO.inst CT [(sN2i, CV.ref d), (sRdy, CV.ref r), (sPo, CV.int (po + rd.length)), (sNf, CV.int nf)]) R3.hs rfl
  have ht3 := f3.at_ _ _ ht2 hne rfl
  refine ⟨v3, _, ?_, f4.at_ _ _ ht3 hne rfl, R4, (Fr.push.trans f2).trans (f3.trans f4)⟩
  refine B.cons (S.ff (T.bool (E.cmp (g1 (v := .ref r) R.hs rfl rfl (fun _ e => nomatch e)) E.const rfl)) B.nil) ?_
  refine B.cons (st1 := ⟨[some (.ref s), some (.ref H.length), none, none], H ++ [.tuple (rd.map .str)], lo, dp⟩) (S.set (st1 := ⟨[some (.ref s), none, none, none], H ++ [.tuple (rd.map .str)], lo, dp⟩) (E.prim (Es.one (g1 (v := .ref r) R.hs rfl rfl (fun _ e => nomatch e))) ?_) (by show 1 < 4; omega)) ?_
  · show Mine.bnd (look (.ref r)) _ _ = _
    unfold Mine.bnd look
    simp only [R.hr, lenS hl, if_true]
    rfl
  refine B.cons (st1 := ⟨[some (.ref s), some (.ref H.length), some (.ref d), none], H ++ [.tuple (rd.map .str)], lo, dp⟩) (S.set (g1 (v := .ref d) R1.hs rfl rfl (fun _ e => nomatch e)) (by show 2 < 4; omega)) ?_
  refine B.cons (S.loop (i := .seq true H.length 0) (st1 := ⟨[some (.ref s), some (.ref H.length), some (.ref d), none], H ++ [.tuple (rd.map .str)], lo, dp⟩) (I.tuple (E.var rfl) get_end) h1) ?_
  refine B.cons (st1 := ⟨[some (.ref s), some (.ref H.length), some (.ref d), v3], H2.set r (.list []), lo, dp⟩) (S.expr (v := .none) (E.meth (u := .ref r) (un := ()) (g1 (v := .ref r) R2.hs rfl rfl (fun _ e => nomatch e)) ?_ Es.nil ?_)) ?_
  · show Mine.bnd (look (.ref r)) _ _ = _
    unfold Mine.bnd look
    simp only [R2.hr]
    rfl
  · show Mine.bnd (look (.ref r)) _ _ = _
    unfold Mine.bnd look
    simp only [R2.hr, lenS hl, if_true]
    unfold put
    simp only [R2.lr, if_true]
    rfl
  have e5 : E P (.prim .len [.var 1]) ⟨[some (.ref s), some (.ref H.length), some (.ref d), v3], H2.set r (.list []), lo, dp⟩ (.int rd.length) ⟨[some (.ref s), some (.ref H.length), some (.ref d), v3], H2.set r (.list []), lo, dp⟩ := E.prim (Es.one (E.var (v := .ref H.length) rfl)) ?_
  refine B.cons (S.augattr (v := .ref s) (old := .int po) (y := .int rd.length) (z := .int (po + rd.length)) (u := ()) (E.var rfl) (ga_s hP R3.hs rfl (fun _ e => nomatch e)) e5 rfl (sa_s hP R3.hs (by show 4 ≤ 100; omega) R3.ls)) ?_
  rotate_left
  · show Mine.bnd (look (.ref H.length)) _ _ = _
    unfold Mine.bnd look
    simp only [List.map_nil] at ht3
    simp only [ht3, show lenOk (([] ++ rd).map CV.str) = true from lenS hl, if_true]
    show some (CV.int ((List.map CV.str rd).length : Int), _) = _
    rw [List.length_map]
  exact B.stop (S.ret (E.var rfl)) (fun e => nomatch e)
theorem done_loop (hP : SrtP P CN CT) (hdp : dp ≠ 0) {x : Str × Nat × Nat} (hx : x ∈ ns) {a1 a3 a4 a5 : Option CV} : ∀ (ys pre : List Str) {H : List CO} {np : Str → Int} {rd : List Str} {v6 v7 : Option CV}, sc x.1 = pre ++ ys → Srt CN CT H lo s d r ep ns np sc rd po nf → (∀ y ∈ ys, y ∈ ns.map (·.1)) → rd.length + ys.length ≤ 1000000 →
    ∃ H' v6' v7', Fo P (.seq false x.2.2 pre.length) (.var 6) [.assign (.var 7) (.sub (.var 2) (.var 6)),
      .augattr (.var 7) sNp .Sub (.const (.int 1)),
      .ite (.cmp .Eq (.attr (.var 7) sNp) (.const (.int 0))) [.expr (.meth .append (.attr (.var 0) sRdy) [.var 6])] []] [] ⟨[some (.ref s), a1, some (.ref d), a3, a4, a5, v6, v7], H, lo, dp⟩ .next ⟨[some (.ref s), a1, some (.ref d), a3, a4, a5, v6', v7'], H', lo, dp⟩ ∧
      Srt CN CT H' lo s d r ep ns (doneS np rd ys).1 sc (doneS np rd ys).2 po nf ∧ Fr r H H' := by
  intro ys
  induction ys with
  | nil =>
    intro pre H np rd v6 v7 hsc R _ _
    refine ⟨H, v6, v7, F.done ?_ B.nil, R, .refl⟩
    rw [nx_list (R.hu x hx) hdp, hsc, fin]; rfl
  | cons y ys ih =>
    intro pre H np rd v6 v7 hsc R hy hln
    obtain ⟨z, hz, rfl⟩ := names_at (hy y (.head _))
    simp only [List.length_cons] at hln
    have hsc' : sc x.1 = (pre ++ [z.1]) ++ ys := by rw [hsc]; simp
    have R1 := R.setNp hz (np z.1 - 1)
    have f1 : Fr r H (H.set z.2.1 (.slots CN [some (.str z.1), some (.int (np z.1 - 1)), some (.ref z.2.2)])) := Fr.set (R.hi z hz) rfl
    have hnp : upd np z.1 (np z.1 - 1) z.1 = np z.1 - 1 := by unfold upd; rw [if_pos rfl]
    have key : ∃ H2, B P [.assign (.var 7) (.sub (.var 2) (.var 6)),
      .augattr (.var 7) sNp .Sub (.const (.int 1)),
      .ite (.cmp .Eq (.attr (.var 7) sNp) (.const (.int 0))) [.expr (.meth .append (.attr (.var 0) sRdy) [.var 6])] []] ⟨[some (.ref s), a1, some (.ref d), a3, a4, a5, some (.str z.1), v7], H, lo, dp⟩ .next ⟨[some (.ref s), a1, some (.ref d), a3, a4, a5, some (.str z.1), some (.ref z.2.1)], H2, lo, dp⟩ ∧
        Srt CN CT H2 lo s d r ep ns (upd np z.1 (np z.1 - 1)) sc (if np z.1 - 1 = 0 then rd ++ [z.1] else rd) po nf ∧ Fr r H H2 := by
      have b1 : S P (.assign (.var 7) (.sub (.var 2) (.var 6))) ⟨[some (.ref s), a1, some (.ref d), a3, a4, a5, some (.str z.1), v7], H, lo, dp⟩ .next ⟨[some (.ref s), a1, some (.ref d), a3, a4, a5, some (.str z.1), some (.ref z.2.1)], H, lo, dp⟩ :=
        S.set (st1 := ⟨[some (.ref s), a1, some (.ref d), a3, a4, a5, some (.str z.1), v7], H, lo, dp⟩) (E.sub (E.var rfl) (E.var rfl) (Srt.subV (st := ⟨[some (.ref s), a1, some (.ref d), a3, a4, a5, some (.str z.1), v7], H, lo, dp⟩) R hz)) (by show 7 < 8; omega)
      have b2 : S P (.augattr (.var 7) sNp .Sub (.const (.int 1))) ⟨[some (.ref s), a1, some (.ref d), a3, a4, a5, some (.str z.1), some (.ref z.2.1)], H, lo, dp⟩ .next ⟨[some (.ref s), a1, some (.ref d), a3, a4, a5, some (.str z.1), some (.ref z.2.1)], H.set z.2.1 (.slots CN [some (.str z.1), some (.int (np z.1 - 1)), some (.ref z.2.2)]), lo, dp⟩ :=
        S.augattr (u := ()) (E.var rfl) (ga_i hP (R.hi z hz) sNp (.inr (.inl ⟨rfl, rfl⟩)) (fun _ e => nomatch e)) E.const rfl (sa_np hP (R.hi z hz) (R.li z hz))
      have e3 : E P (.cmp .Eq (.attr (.var 7) sNp) (.const (.int 0))) ⟨[some (.ref s), a1, some (.ref d), a3, a4, a5, some (.str z.1), some (.ref z.2.1)], H.set z.2.1 (.slots CN [some (.str z.1), some (.int (np z.1 - 1)), some (.ref z.2.2)]), lo, dp⟩ (.bool (np z.1 - 1 == 0)) _ :=
        E.cmp (u := .int (np z.1 - 1)) (E.attr (E.var rfl) (ga_i hP (R1.hi z hz) sNp (.inr (.inl ⟨rfl, by rw [hnp]⟩)) (fun _ e => nomatch e))) E.const rfl
      by_cases h0 : np z.1 - 1 = 0
      · have R2 := R1.setRd (rd ++ [z.1])
        refine ⟨_, B.cons b1 (B.cons b2 (B.cons (S.tt (T.bool (by rw [show (np z.1 - 1 == 0) = true by simpa using h0] at e3; exact e3)) (B.cons (S.expr (v := .none) (E.meth (u := .ref r) (un := ()) (E.attr (E.var rfl) (ga_s hP (by exact R1.hs) rfl (fun _ e => nomatch e))) ?_ (Es.one (E.var rfl)) ?_)) B.nil)) B.nil)), by rw [if_pos h0]; exact R2, f1.trans Fr.setR⟩
        · show Mine.bnd (look (.ref r)) _ _ = _
          unfold Mine.bnd
          rw [look_ok (by exact R1.hr)]; rfl
        · show Mine.bnd (look (.ref r)) _ _ = _
          unfold Mine.bnd
          rw [look_ok (by exact R1.hr)]
          have hl : lenOk (rd.map CV.str) = true := lenS (by omega)
          simp only [hl, if_true]
          unfold put
          simp only [R1.lr, if_true]
          simp [Mine.rt]
      · refine ⟨_, B.cons b1 (B.cons b2 (B.cons (S.ff (T.bool ?_) B.nil) B.nil)), by rw [if_neg h0]; exact R1, f1⟩
        rw [show (np z.1 - 1 == 0) = false by simpa using h0] at e3
        exact e3
    obtain ⟨H2, k1, R2, f2⟩ := key
    obtain ⟨H', v6', v7', h1, h2, h3⟩ := ih (pre ++ [z.1]) (v6 := some (.str z.1)) (v7 := some (.ref z.2.1)) hsc' R2 (fun w hw => hy w (.tail _ hw)) (by
      split
      · rw [List.length_append]; show rd.length + 1 + _ ≤ _; omega
      · omega)
    refine ⟨H', v6', v7', F.turn (w := .one (.str z.1)) (by rw [nx_list (R.hu x hx) hdp, hsc, mid]; rfl) (u := ()) (st1 := ⟨[some (.ref s), a1, some (.ref d), a3, a4, a5, some (.str z.1), v7], H, lo, dp⟩) rfl (f := .next) k1 (.inl rfl) ?_, h2, f2.trans h3⟩
    rw [List.length_append] at h1
    exact h1
theorem done_ok (hP : SrtP P CN CT) {f : Addr} (hf : P.fn f = some ⟨1, true, [], 8, bDone⟩) (hdp : 1 < dp) (R : Srt CN CT H lo s d r ep ns np sc rd po nf) {x : Str × Nat × Nat} (hx : x ∈ ns) (hnp : np x.1 = -1) (hsc : ∀ y ∈ sc x.1, y ∈ ns.map (·.1)) (hl : rd.length + (sc x.1).length ≤ 1000000) {L : List (Option CV)} :
    ∃ H', C P f [.ref s, .str x.1] ⟨L, H, lo, dp⟩ .none ⟨L, H', lo, dp⟩ ∧ Srt CN CT H' lo s d r ep ns (doneS (upd np x.1 (-2)) rd (sc x.1)).1 sc (doneS (upd np x.1 (-2)) rd (sc x.1)).2 po (nf + 1) ∧ Fr r H H' := by
  have g1 : ∀ {st : St} {a : Int} {x v}, st.heap[s]? = some (.inst CT [(sN2i, CV.ref d), (sRdy, CV.ref r), (sPo, CV.int po), (sNf, CV.int a)]) → st.loc[0]? = some (some (.ref s)) → lkS [(sN2i, CV.ref d), (sRdy, CV.ref r), (sPo, CV.int po), (sNf, CV.int a)] x = some v → (∀ u, v ≠ .lit u) → E P (.attr (.var 0) x) st v st := fun h0 h00 h1 h2 => E.attr (E.var h00) (ga_s hP h0 h1 h2)
  have hdp1 : dp - 1 ≠ 0 := by omega
  have R1 := R.push (.tuple [.str x.1])
  have R2 := R1.setNp hx (-2)
  have f2 : Fr r (H ++ [CO.tuple [.str x.1]]) ((H ++ [CO.tuple [.str x.1]]).set x.2.1 (.slots CN [some (.str x.1), some (.int (-2)), some (.ref x.2.2)])) := Fr.set (R1.hi x hx) rfl
  obtain ⟨H3, v6, v7, h3, R3, f3⟩ := done_loop (dp := dp - 1) hP hdp1 hx (a1 := some (.ref H.length)) (a3 := some (.str x.1)) (a4 := some (.ref x.2.1)) (a5 := some (.int (-1))) (sc x.1) [] (v6 := none) (v7 := none) rfl R2 hsc hl
  have R4 := R3.setAt po (nf + 1)
  have f4 : Fr r H3 _ := Fr.set (o' := CO.inst CT [(sN2i, CV.ref d), (sRdy, CV.ref r), (sPo, CV.int po), (sNf, CV.int (nf + 1))]) R3.hs rfl
  have hne : H.length ≠ r := fun e => by subst e; exact absurd (List.getElem?_eq_some_iff.mp R.hr).1 (Nat.lt_irrefl _)
  have ht : (H ++ [CO.tuple [.str x.1]])[H.length]? = some (.tuple [.str x.1]) := get_end
  have ht4 := f4.at_ _ _ (f3.at_ _ _ (f2.at_ _ _ ht hne rfl) hne rfl) hne rfl
  refine ⟨_, C.next hf (by
    unfold callOk
    simp [givenV]; omega) (st2 := ⟨[some (.ref s), some (.ref H.length), some (.ref d), some (.str x.1), some (.ref x.2.1), some (.int (-1)), v6, v7], _, lo, dp - 1⟩) ?_, R4, (Fr.push.trans f2).trans (f3.trans f4)⟩
  show B P bDone ⟨[some (.ref s), some (.ref H.length), none, none, none, none, none, none], H ++ [.tuple [.str x.1]], lo, dp - 1⟩ .next _
  refine B.cons (S.ff (T.bool (E.cmp (g1 (v := .ref r) R1.hs rfl rfl (fun _ e => nomatch e)) E.const rfl)) B.nil) ?_
  refine B.cons (st1 := ⟨[some (.ref s), some (.ref H.length), some (.ref d), none, none, none, none, none], H ++ [.tuple [.str x.1]], lo, dp - 1⟩) (S.set (g1 (v := .ref d) R1.hs rfl rfl (fun _ e => nomatch e)) (by show 2 < 8; omega)) ?_
  refine B.cons (S.loop (I.tuple (E.var rfl) ht) (F.turn (w := .one (.str x.1)) (i' := .seq true H.length 1) (by rw [nx_tuple ht hdp1]; rfl) (u := ()) (st1 := ⟨[some (.ref s), some (.ref H.length), some (.ref d), some (.str x.1), none, none, none, none], H ++ [.tuple [.str x.1]], lo, dp - 1⟩) rfl (f := .next) (st2 := ⟨[some (.ref s), some (.ref H.length), some (.ref d), some (.str x.1), some (.ref x.2.1), some (.int (-1)), v6, v7], _, lo, dp - 1⟩) ?_ (.inl rfl) (F.done (by rw [nx_tuple ht4 hdp1]; rfl) B.nil))) B.nil
  have e1 : E P (.walrus 4 (.meth .get (.var 2) [.var 3])) ⟨[some (.ref s), some (.ref H.length), some (.ref d), some (.str x.1), none, none, none, none], H ++ [.tuple [.str x.1]], lo, dp - 1⟩ (.ref x.2.1) ⟨[some (.ref s), some (.ref H.length), some (.ref d), some (.str x.1), some (.ref x.2.1), none, none, none], H ++ [.tuple [.str x.1]], lo, dp - 1⟩ := by
    have e0 : E P (.meth .get (.var 2) [.var 3]) ⟨[some (.ref s), some (.ref H.length), some (.ref d), some (.str x.1), none, none, none, none], H ++ [.tuple [.str x.1]], lo, dp - 1⟩ (.ref x.2.1) ⟨[some (.ref s), some (.ref H.length), some (.ref d), some (.str x.1), none, none, none, none], H ++ [.tuple [.str x.1]], lo, dp - 1⟩ := by
      refine E.meth (u := .ref d) (un := ()) (st1 := ⟨[some (.ref s), some (.ref H.length), some (.ref d), some (.str x.1), none, none, none, none], H ++ [.tuple [.str x.1]], lo, dp - 1⟩) (st2 := ⟨[some (.ref s), some (.ref H.length), some (.ref d), some (.str x.1), none, none, none, none], H ++ [.tuple [.str x.1]], lo, dp - 1⟩) (vs := [.str x.1]) (E.var rfl) ?_ (Es.one (E.var rfl)) ?_
      · show Mine.bnd (look (.ref d)) _ _ = _
        unfold Mine.bnd
        rw [look_ok (by exact R1.hd)]; rfl
      · show Mine.bnd (look (.ref d)) _ _ = _
        unfold Mine.bnd
        rw [look_ok (by exact R1.hd)]
        simp only [lk_ns R.nd hx]; rfl
    exact E.walrus e0 (by show 4 < 8; omega)
  refine B.cons (S.ff (T.bool (E.cmp e1 E.const rfl)) B.nil) ?_
  refine B.cons (st1 := ⟨[some (.ref s), some (.ref H.length), some (.ref d), some (.str x.1), some (.ref x.2.1), some (.int (-1)), none, none], H ++ [.tuple [.str x.1]], lo, dp - 1⟩) (S.set (v := .int (-1)) (st1 := ⟨[some (.ref s), some (.ref H.length), some (.ref d), some (.str x.1), some (.ref x.2.1), none, none, none], H ++ [.tuple [.str x.1]], lo, dp - 1⟩) (E.attr (E.var rfl) (ga_i hP (R1.hi x hx) sNp (.inr (.inl ⟨rfl, by rw [hnp]⟩)) (fun _ e => nomatch e))) (by show 5 < 8; omega)) ?_
  refine B.cons (S.ff (T.bool (E.cmp (E.var rfl) E.glob rfl)) B.nil) ?_
  refine B.cons (S.attr (u := ()) E.glob (E.var rfl) (sa_np hP (R1.hi x hx) (R1.li x hx))) ?_
  refine B.cons (S.loop (I.list (E.attr (E.var rfl) (ga_i hP (R2.hi x hx) sSuc (.inr (.inr ⟨rfl, rfl⟩)) (fun _ e => nomatch e))) (R2.hu x hx)) h3) ?_
  exact B.cons (S.augattr (v := .ref s) (old := .int nf) (y := .int 1) (z := .int (nf + 1)) (u := ()) (E.var rfl) (ga_s hP R3.hs rfl (fun _ e => nomatch e)) E.const rfl (sa_s hP R3.hs (by show 4 ≤ 100; omega) R3.ls)) B.nil
end
end Pl
end Mine
end

section
set_option genSizeOf false
set_option genInjectivity false
namespace Mine
namespace Pl
section
variable {P : Prog} {st st1 st2 st3 st' : St}
theorem C.ret2 {f : Addr} (fn : Fn) {args : List CV} {v : CV} {L L2 : List (Option CV)} {H H' : List CO} {lo lo2 dp dp2 : Nat} (hf : P.fn f = some fn) (hok : callOk fn args ⟨L, H, lo, dp⟩ = true) (h : B P fn.body (calleeSt fn args ⟨L, H, lo, dp⟩) (.ret v) ⟨L2, H', lo2, dp2⟩) : C P f args ⟨L, H, lo, dp⟩ v ⟨L, H', lo, dp⟩ := C.ret hf hok h
theorem C.ret_ex {f : Addr} (fn : Fn) {args : List CV} {v : CV} {st : St} (hf : P.fn f = some fn) (hok : callOk fn args st = true) (h : ∃ st2, B P fn.body (calleeSt fn args st) (.ret v) st2) : ∃ st', C P f args st v st' := let ⟨_, h⟩ := h; ⟨_, C.ret hf hok h⟩
theorem small_nat {i : Nat} (h : i < 100000) : small (i : Int) = true := by
  unfold small
  rw [Bool.and_eq_true]
  exact ⟨decide_eq_true (Int.lt_of_lt_of_le (by decide) (Int.natCast_nonneg i)), decide_eq_true (Int.lt_trans (show (i : Int) < 100000 by omega) (by decide))⟩
theorem sub_listI {st : St} {t : Nat} {xs : List CV} {j : Int} {v : CV} (h : st.heap[t]? = some (.list xs)) (hs : (small j && lenOk xs) = true) (hi : atI xs j = some v) : subV (.ref t) (.int j) st = some (v, st) := by
  show Mine.bnd (look (.ref t)) _ _ = _
  unfold Mine.bnd
  rw [look_ok h]
  simp only [hs, if_true, hi]
  rfl
theorem atI_nat {α : Type} (xs : List α) (i : Nat) : atI xs (i : Int) = xs[i]? := by
  unfold atI
  rw [if_pos (Int.natCast_nonneg i), Int.toNat_natCast]
theorem str_atI {st : St} {x : Array Nat} {j : Int} {c : Nat} (h : (decide (0 ≤ j) && small j) = true) (hi : x.toList[j.toNat]? = some c) : subV (.str ⟨x⟩) (.int j) st = some (.str ⟨#[c]⟩, st) := by
  show (match (if decide (0 ≤ j) && small j then x.toList[j.toNat]? else none) with
    | some c => rt (CV.str ⟨#[c]⟩)
    | none => no) st = _
  simp only [h, if_true, hi]; rfl
theorem str_at {st : St} {x : Array Nat} {i : Nat} {c : Nat} (hi : x.toList[i]? = some c) (hl : i < 1000) : subV (.str ⟨x⟩) (.int i) st = some (.str ⟨#[c]⟩, st) :=
  str_atI (by rw [small_nat (by omega), decide_eq_true (Int.natCast_nonneg _)]; rfl) (by rw [Int.toNat_natCast]; exact hi)
theorem cat_str {st : St} {x y : Str} (hx : x.length ≤ 1000) (hy : y.length ≤ 1000) : binV .Add (.str x) (.str y) st = some (.str (x ++ y), st) := by
  have h1 : (lenOk x.cps.toList && lenOk y.cps.toList) = true := by
    unfold lenOk
    rw [decide_eq_true (show x.cps.toList.length ≤ 1000000 from Nat.le_trans hx (by decide)), decide_eq_true (show y.cps.toList.length ≤ 1000000 from Nat.le_trans hy (by decide))]; rfl
  show (if lenOk x.cps.toList && lenOk y.cps.toList then rt (CV.str (x ++ y)) else no : M CV) st = _
  rw [if_pos h1]; rfl
theorem idx_ok {xs : List CV} {i : Nat} {v : CV} (hi : xs[i]? = some v) (hl : xs.length ≤ 1000) : (small (i : Int) && lenOk xs) = true := by
  have hi2 := (List.getElem?_eq_some_iff.mp hi).1
  have h2 : lenOk xs = true := decide_eq_true (Nat.le_trans hl (by decide))
  rw [h2, small_nat (by omega)]; rfl
theorem sub_at {st : St} {t : Nat} {xs : List CV} {i : Nat} {v : CV} (h : st.heap[t]? = some (.list xs)) (hi : xs[i]? = some v) (hl : xs.length ≤ 1000) : subV (.ref t) (.int i) st = some (v, st) := sub_listI h (idx_ok hi hl) ((atI_nat xs i).trans hi)
theorem nx_seq {b : Bool} {t i : Nat} {xs : List CV} (h : st.heap[t]? = some (if b then .tuple xs else .list xs)) (hd : st.dep ≠ 0) : nextI (.seq b t i) st = some (xs[i]?.map fun v => (.one v, .seq b t (i + 1))) := by
  cases b
  · exact nx_list h hd
  · exact nx_tuple h hd
theorem for_seq {b : Bool} {k : Nat} {xs : List CV} {t : CT} {body : List CS} (Inv : Nat → St → Prop)
    (hI : ∀ i st, Inv i st → st.heap[k]? = some (if b then .tuple xs else .list xs) ∧ st.dep ≠ 0)
    (turn : ∀ i v st, xs[i]? = some v → Inv i st → ∃ u st1 st2 f, asgI t (.one v) st = some (u, st1) ∧ B P body st1 f st2 ∧ (f = .next ∨ f = .cont) ∧ Inv (i + 1) st2) :
    ∀ n i st, i + n = xs.length → Inv i st → ∃ st', Fo P (.seq b k i) t body [] st .next st' ∧ Inv xs.length st' := by
  intro n
  induction n with
  | zero =>
    intro i st hn h
    obtain ⟨h1, h2⟩ := hI i st h
    have hi : i = xs.length := by omega
    subst hi
    exact ⟨st, F.done (by rw [nx_seq h1 h2, List.getElem?_eq_none (Nat.le_refl _)]; rfl) B.nil, h⟩
  | succ n ih =>
    intro i st hn h
    obtain ⟨h1, h2⟩ := hI i st h
    have hi : i < xs.length := by omega
    have he := List.getElem?_eq_getElem hi
    obtain ⟨u, st1, st2, f, g1, g2, g3, g4⟩ := turn i _ st he h
    obtain ⟨st', k1, k2⟩ := ih (i + 1) st2 (by omega) g4
    exact ⟨st', F.turn (by rw [nx_seq h1 h2, he]; rfl) g1 g2 g3 k1, k2⟩
theorem comp_seq {b : Bool} {k : Nat} {xs : List CV} {ts : List Nat} {el : CE} (f : CV → CV) (Inv : Nat → St → Prop)
    (hI : ∀ i st, Inv i st → st.heap[k]? = some (if b then .tuple xs else .list xs) ∧ st.dep ≠ 0)
    (turn : ∀ i v st, xs[i]? = some v → Inv i st → ∃ u st1 st2, asgI (tsT ts) (.one v) st = some (u, st1) ∧ E P el st1 (f v) st2 ∧ Inv (i + 1) st2) :
    ∀ n i st acc, i + n = xs.length → Inv i st → ∃ st', G P (.seq b k i) ts [] el acc st (acc ++ (xs.drop i).map f) st' := by
  intro n
  induction n with
  | zero =>
    intro i st acc hn h
    obtain ⟨h1, h2⟩ := hI i st h
    have hi : i = xs.length := by omega
    subst hi
    refine ⟨st, ?_⟩
    rw [List.drop_length, List.map_nil, List.append_nil]
    exact G.done (by rw [nx_seq h1 h2, List.getElem?_eq_none (Nat.le_refl _)]; rfl)
  | succ n ih =>
    intro i st acc hn h
    obtain ⟨h1, h2⟩ := hI i st h
    have hi : i < xs.length := by omega
    have he := List.getElem?_eq_getElem hi
    obtain ⟨u, st1, st2, g1, g2, g3⟩ := turn i _ st he h
    obtain ⟨st', k1⟩ := ih (i + 1) st2 (acc ++ [f xs[i]]) (by omega) g3
    refine ⟨st', ?_⟩
    rw [List.drop_eq_getElem_cons hi, List.map_cons, show acc ++ f xs[i] :: (xs.drop (i + 1)).map f = (acc ++ [f xs[i]]) ++ (xs.drop (i + 1)).map f by simp]
    exact G.turn (by rw [nx_seq h1 h2, he]; rfl) g1 All.nil g2 k1
theorem nx_rng {x : Int} {r : List Int} (hd : st.dep ≠ 0) : nextI (.rng (x :: r)) st = some (some (.one (.int x), .rng r)) := by
  unfold nextI; rw [if_neg hd]; rfl
theorem nx_rng0 (hd : st.dep ≠ 0) : nextI (.rng []) st = some none := by
  unfold nextI; rw [if_neg hd]; rfl
theorem pick_mem {α : Type} {xs : List α} {lo hi s : Option Int} {x : α} (h : x ∈ pick xs lo hi s) : x ∈ xs := by
  unfold pick at h
  obtain ⟨i, _, hi⟩ := List.mem_filterMap.mp h
  exact List.mem_of_getElem? hi
theorem pick_map {α β : Type} {xs : List α} {lo hi s : Option Int} (f : α → β) : pick (xs.map f) lo hi s = (pick xs lo hi s).map f := by
  unfold pick
  dsimp only
  rw [List.length_map, List.map_filterMap]
  congr 1
  funext i
  rw [List.getElem?_map]
theorem pick_len {α : Type} {xs : List α} {lo hi s : Option Int} (hs : 0 < s.getD 1) : (pick xs lo hi s).length ≤ xs.length := by
  unfold pick
  refine Nat.le_trans (List.length_filterMap_le _ _) ?_
  have e : (sliceBounds lo hi s xs.length).2.2 = s.getD 1 := rfl
  refine sliceRange_length_le _ _ _ _ (fun _ => ⟨?_, ?_⟩) (fun h => absurd (by rw [e]; exact hs) h)
  · unfold sliceBounds
    induction lo with
    | none => dsimp only; split <;> omega
    | some i => dsimp only; rw [if_pos hs]; exact Int.le_max_left _ _
  · unfold sliceBounds
    induction hi with
    | none => dsimp only; split <;> omega
    | some i => dsimp only; rw [if_pos hs]; omega
end
end Pl
end Mine
end

section
set_option genSizeOf false
set_option genInjectivity false
namespace Mine
namespace Pl
noncomputable def hp0 : List CO := [.tuple [.ref 1, .ref 2, .ref 3, .ref 4, .ref 5, .ref 6, .ref 7, .ref 8, .ref 9, .ref 10],
  .tuple [.ref 11, .ref 12, .ref 13, .ref 14, .ref 15, .ref 16, .ref 17],
  .tuple [.ref 18],
  .tuple [.ref 19],
  .tuple [.ref 20, .ref 21, .ref 22],
  .tuple [.ref 23],
  .tuple [.ref 24],
  .tuple [.ref 25, .ref 26, .ref 27],
  .tuple [.ref 28],
  .tuple [.ref 29],
  .tuple [.ref 30, .ref 31, .ref 32],
  .tuple [.int 40960, .str ⟨#[108]⟩],
  .tuple [.int 49152, .str ⟨#[115]⟩],
  .tuple [.int 32768, .str ⟨#[45]⟩],
  .tuple [.int 24576, .str ⟨#[98]⟩],
  .tuple [.int 16384, .str ⟨#[100]⟩],
  .tuple [.int 8192, .str ⟨#[99]⟩],
  .tuple [.int 4096, .str ⟨#[112]⟩],
  .tuple [.int 256, .str ⟨#[114]⟩],
  .tuple [.int 128, .str ⟨#[119]⟩],
  .tuple [.int 2112, .str ⟨#[115]⟩],
  .tuple [.int 2048, .str ⟨#[83]⟩],
  .tuple [.int 64, .str ⟨#[120]⟩],
  .tuple [.int 32, .str ⟨#[114]⟩],
  .tuple [.int 16, .str ⟨#[119]⟩],
  .tuple [.int 1032, .str ⟨#[115]⟩],
  .tuple [.int 1024, .str ⟨#[83]⟩],
  .tuple [.int 8, .str ⟨#[120]⟩],
  .tuple [.int 4, .str ⟨#[114]⟩],
  .tuple [.int 2, .str ⟨#[119]⟩],
  .tuple [.int 513, .str ⟨#[116]⟩],
  .tuple [.int 512, .str ⟨#[84]⟩],
  .tuple [.int 1, .str ⟨#[120]⟩],
  .dictI [(1, .str ⟨#[79, 80, 84, 73, 77, 73, 90, 69, 68]⟩), (2, .str ⟨#[78, 69, 87, 76, 79, 67, 65, 76, 83]⟩), (4, .str ⟨#[86, 65, 82, 65, 82, 71, 83]⟩), (8, .str ⟨#[86, 65, 82, 75, 69, 89, 87, 79, 82, 68, 83]⟩), (16, .str ⟨#[78, 69, 83, 84, 69, 68]⟩), (32, .str ⟨#[71, 69, 78, 69, 82, 65, 84, 79, 82]⟩), (64, .str ⟨#[78, 79, 70, 82, 69, 69]⟩), (128, .str ⟨#[67, 79, 82, 79, 85, 84, 73, 78, 69]⟩), (256, .str ⟨#[73, 84, 69, 82, 65, 66, 76, 69, 95, 67, 79, 82, 79, 85, 84, 73, 78, 69]⟩), (512, .str ⟨#[65, 83, 89, 78, 67, 95, 71, 69, 78, 69, 82, 65, 84, 79, 82]⟩)] 10]
noncomputable abbrev T1 (L : List CO) (dp : Nat) : St := ⟨[], hp0 ++ L, 34 + L.length, dp⟩
noncomputable abbrev fIn (SI : Addr) : List CS := [.ite (.cmp .Eq (.var 2) (.const (.int 0))) [.ite (.cmp .Eq (.callf SI true [.var 0]) (.var 4)) [.expr (.meth .append (.var 1) [.var 5]),
    .brk] []] [.ite (.cmp .Eq (.bin .BitAnd (.var 0) (.var 4)) (.var 4)) [.expr (.meth .append (.var 1) [.var 5]),
    .brk] []]]
noncomputable abbrev fElse : List CS := [.ite (.cmp .Eq (.var 2) (.const (.int 0))) [.expr (.meth .append (.var 1) [.const (.str ⟨#[63]⟩)])] [.expr (.meth .append (.var 1) [.const (.str ⟨#[45]⟩)])]]
noncomputable def bFm (SI : Addr) : List CS := [.assign (.var 1) (.list []),
    .for (.vars [2, 3]) (.enum (.glob (.ref 0))) [.for (.vars [4, 5]) (.plain (.var 3)) [.ite (.cmp .Eq (.var 2) (.const (.int 0))) [.ite (.cmp .Eq (.callf SI true [.var 0]) (.var 4)) [.expr (.meth .append (.var 1) [.var 5]),
    .brk] []] [.ite (.cmp .Eq (.bin .BitAnd (.var 0) (.var 4)) (.var 4)) [.expr (.meth .append (.var 1) [.var 5]),
    .brk] []]] [.ite (.cmp .Eq (.var 2) (.const (.int 0))) [.expr (.meth .append (.var 1) [.const (.str ⟨#[63]⟩)])] [.expr (.meth .append (.var 1) [.const (.str ⟨#[45]⟩)])]]] [],
    .ret (.meth .join (.const (.str ⟨#[]⟩)) [.var 1])]
theorem bFm_is (SI : Addr) : bFm SI = [.assign (.var 1) (.list []), .for (.vars [2, 3]) (.enum (.glob (.ref 0))) [.for (.vars [4, 5]) (.plain (.var 3)) (fIn SI) fElse] [], .ret (.meth .join (.const (.str ⟨#[]⟩)) [.var 1])] := rfl
noncomputable def bPf : List CS := [.assign (.var 1) (.list []),
    .for (.var 2) (.range [.const (.int 32)]) [.assign (.var 3) (.bin .LShift (.const (.int 1)) (.var 2)),
    .ite (.bin .BitAnd (.var 0) (.var 3)) [.expr (.meth .append (.var 1) [.meth .getD (.glob (.ref 33)) [.var 3, .prim .hex [.var 3]]]),
    .aug 0 .BitXor (.var 3),
    .ite (.not (.var 0)) [.brk] []] []] [.expr (.meth .append (.var 1) [.prim .hex [.var 0]])],
    .ret (.meth .join (.const (.str ⟨#[44, 32]⟩)) [.var 1])]
noncomputable def bSI : List CS := [.ret (.bin .BitAnd (.var 0) (.const (.int 61440)))]
noncomputable def tabs : List (List (Nat × Int × Nat)) := [[(11, 40960, 108), (12, 49152, 115), (13, 32768, 45), (14, 24576, 98), (15, 16384, 100), (16, 8192, 99), (17, 4096, 112)],
  [(18, 256, 114)],
  [(19, 128, 119)],
  [(20, 2112, 115), (21, 2048, 83), (22, 64, 120)],
  [(23, 32, 114)],
  [(24, 16, 119)],
  [(25, 1032, 115), (26, 1024, 83), (27, 8, 120)],
  [(28, 4, 114)],
  [(29, 2, 119)],
  [(30, 513, 116), (31, 512, 84), (32, 1, 120)]]
noncomputable def pickN (test : Int → Bool) (d : Nat) : List (Int × Nat) → Nat
  | [] => d
  | (b, c) :: r => if test b then c else pickN test d r
noncomputable def chN (m : Int) (i : Nat) (t : List (Nat × Int × Nat)) : Nat := if i = 0 then pickN (fun b => Builtin.bitAnd m 61440 == b) 63 (t.map (·.2)) else pickN (fun b => Builtin.bitAnd m b == b) 45 (t.map (·.2))
noncomputable def chs (m : Int) : Nat → List (List (Nat × Int × Nat)) → List CV
  | _, [] => []
  | i, t :: r => .str ⟨#[chN m i t]⟩ :: chs m (i + 1) r
noncomputable def fmN (m : Int) : List Nat := [chN m 0 (tabs[0]?.getD []), chN m 1 (tabs[1]?.getD []), chN m 2 (tabs[2]?.getD []), chN m 3 (tabs[3]?.getD []), chN m 4 (tabs[4]?.getD []), chN m 5 (tabs[5]?.getD []), chN m 6 (tabs[6]?.getD []), chN m 7 (tabs[7]?.getD []), chN m 8 (tabs[8]?.getD []), chN m 9 (tabs[9]?.getD [])]
noncomputable def fmS (m : Int) : Str := ⟨(fmN m).toArray⟩
theorem tab_at : ∀ i : Nat, i < 10 → hp0[i + 1]? = some (.tuple ((tabs[i]?.getD []).map fun q => .ref q.1)) := by decide +kernel
theorem tab_in : ∀ i : Nat, i < 10 → ∀ q ∈ tabs[i]?.getD [], hp0[q.1]? = some (.tuple [.int q.2.1, .str ⟨#[q.2.2]⟩]) := by decide +kernel
theorem tab0 : hp0[0]? = some (.tuple ((List.range 10).map fun i => .ref (i + 1))) := by decide +kernel
section
variable {P : Prog}
theorem call1 (hT : P.top = 34) {f : Addr} {x : CE} {i : Int} {v : CV} {st : St} {R : List CO} {st2 : St} (hH : st.heap = hp0 ++ R) (he : E P x st (.int i) st) (h : C P f [.int i] (T1 [] st.dep) v st2) (hv : isV v = true) : E P (.callf f true [x]) st v st := by
  refine E.callv (P := P) (Es.one he) (args' := [.int i]) (hs := []) (ks := []) ?_ ?_ (by
    have : st.heap.take P.top ++ [] = hp0 := by rw [hH, hT]; rfl
    rw [this, hT]; exact h) hv
  · rw [hH, hT]; rfl
  · rfl
theorem si_ok {SI : Addr} (hS : P.fn SI = some ⟨1, false, [], 2, bSI⟩) (m : Int) {dp : Nat} (hd : dp ≠ 0) : C P SI [.int m] (T1 [] dp) (.int (Builtin.bitAnd m 61440)) (T1 [] dp) := by
  refine C.ret2 _ (L2 := [some (.int m), none]) (lo2 := 34) (dp2 := dp - 1) hS (by unfold callOk; simp [givenV, hd]) ?_
  exact B.stop (S.ret (E.bin (E.var rfl) E.const rfl)) (fun e => nomatch e)
variable {SI : Addr} {m : Int} {dp lo t : Nat} {ii : Int}
theorem app_ok {st : St} {k : Nat} {xs : List CV} {v : CV} (hk : st.heap[k]? = some (.list xs)) (hl : xs.length ≤ 1000000) (hlo : st.lo ≤ k) : primV .append [.ref k, v] st = some (.none, { st with heap := st.heap.set k (.list (xs ++ [v])) }) := by
  show Mine.bnd (look (.ref k)) _ _ = _
  unfold Mine.bnd
  rw [look_ok hk]
  have hl : lenOk xs = true := by simpa [lenOk] using hl
  simp only [hl, if_true]
  unfold put
  simp only [hlo, if_true]
  rfl
theorem S.app {st : St} {k : Nat} {xs : List CV} {o x : CE} {v : CV} (ho : E P o st (.ref k) st) (hx : E P x st v st) (hk : st.heap[k]? = some (.list xs)) (hl : xs.length ≤ 1000000) (hlo : st.lo ≤ k) : S P (.expr (.meth .append o [x])) st .next { st with heap := st.heap.set k (.list (xs ++ [v])) } :=
  S.expr (v := .none) (E.meth (u := .ref k) (un := ()) ho (by
    show Mine.bnd (look (.ref k)) _ _ = _
    unfold Mine.bnd
    rw [look_ok hk]; rfl) (Es.one hx) (app_ok hk hl hlo))
noncomputable abbrev fSt (m : Int) (a2 a3 v4 v5 : Option CV) (perm : List CV) (lo dp : Nat) : St := ⟨[some (.int m), some (.ref 34), a2, a3, v4, v5], hp0 ++ [.list perm], lo, dp⟩
theorem else_ok {perm : List CV} {a3 v4 v5 : Option CV} (hl : perm.length ≤ 1000) (hlo : lo ≤ 34) : B P fElse (fSt m (some (.int ii)) a3 v4 v5 perm lo dp) .next (fSt m (some (.int ii)) a3 v4 v5 (perm ++ [.str ⟨#[if ii = 0 then 63 else 45]⟩]) lo dp) := by
  have e : E P (.cmp .Eq (.var 2) (.const (.int 0))) (fSt m (some (.int ii)) a3 v4 v5 perm lo dp) (.bool (ii == 0)) (fSt m (some (.int ii)) a3 v4 v5 perm lo dp) := E.cmp (E.var rfl) E.const rfl
  by_cases h : ii = 0
  · rw [if_pos h]
    rw [show (ii == 0) = true by simpa using h] at e
    exact B.cons (S.tt (T.bool e) (B.cons (S.app (st := fSt m (some (.int ii)) a3 v4 v5 perm lo dp) (E.var rfl) E.const (k := 34) rfl (by omega) hlo) B.nil)) B.nil
  · rw [if_neg h]
    rw [show (ii == 0) = false by simpa using h] at e
    exact B.cons (S.ff (T.bool e) (B.cons (S.app (st := fSt m (some (.int ii)) a3 v4 v5 perm lo dp) (E.var rfl) E.const (k := 34) rfl (by omega) hlo) B.nil)) B.nil
theorem in_ok (hT : P.top = 34) (hS : P.fn SI = some ⟨1, false, [], 2, bSI⟩) {perm : List CV} {a3 : Option CV} {b : Int} {c : Nat} (hl : perm.length ≤ 1000) (hlo : lo ≤ 34) (hd : dp ≠ 0) : ∀ test, test = (if ii = 0 then (Builtin.bitAnd m 61440 == b) else (Builtin.bitAnd m b == b)) →
    B P (fIn SI) (fSt m (some (.int ii)) a3 (some (.int b)) (some (.str ⟨#[c]⟩)) perm lo dp) (if test then .brk else .next) (fSt m (some (.int ii)) a3 (some (.int b)) (some (.str ⟨#[c]⟩)) (if test then perm ++ [.str ⟨#[c]⟩] else perm) lo dp) := by
  intro test ht
  have e : E P (.cmp .Eq (.var 2) (.const (.int 0))) (fSt m (some (.int ii)) a3 (some (.int b)) (some (.str ⟨#[c]⟩)) perm lo dp) (.bool (ii == 0)) (fSt m (some (.int ii)) a3 (some (.int b)) (some (.str ⟨#[c]⟩)) perm lo dp) := E.cmp (E.var rfl) E.const rfl
  have fin : ∀ (x : CE), E P x (fSt m (some (.int ii)) a3 (some (.int b)) (some (.str ⟨#[c]⟩)) perm lo dp) (.bool test) (fSt m (some (.int ii)) a3 (some (.int b)) (some (.str ⟨#[c]⟩)) perm lo dp) → (∀ s : Ev, stepT s x = Mine.bnd (s.e x) truth) →
      B P [.ite x [.expr (.meth .append (.var 1) [.var 5]), .brk] []] (fSt m (some (.int ii)) a3 (some (.int b)) (some (.str ⟨#[c]⟩)) perm lo dp) (if test then .brk else .next) (fSt m (some (.int ii)) a3 (some (.int b)) (some (.str ⟨#[c]⟩)) (if test then perm ++ [.str ⟨#[c]⟩] else perm) lo dp) := fun x h hx => by
    induction test with
    | true => exact B.stop (S.tt (T.bool h hx) (B.cons (S.app (st := fSt m (some (.int ii)) a3 (some (.int b)) (some (.str ⟨#[c]⟩)) perm lo dp) (E.var rfl) (E.var rfl) (k := 34) rfl (by omega) hlo) (B.stop (S.of (n := 1) rfl) (fun e => nomatch e)))) (fun e => nomatch e)
    | false => exact B.cons (S.ff (T.bool h hx) B.nil) B.nil
  by_cases h : ii = 0
  · rw [if_pos h] at ht
    rw [show (ii == 0) = true by simpa using h] at e
    have k := fin (.cmp .Eq (.callf SI true [.var 0]) (.var 4)) (by
      rw [ht]
      exact E.cmp (call1 hT (R := [.list perm]) rfl (E.var rfl) (si_ok hS m hd) rfl) (E.var rfl) rfl) (fun _ => rfl)
    have k2 := S.tt (y := [.ite (.cmp .Eq (.bin .BitAnd (.var 0) (.var 4)) (.var 4)) [.expr (.meth .append (.var 1) [.var 5]), .brk] []]) (T.bool e) k
    induction test with
    | true => exact B.stop k2 (fun e => nomatch e)
    | false => exact B.cons k2 B.nil
  · rw [if_neg h] at ht
    rw [show (ii == 0) = false by simpa using h] at e
    have k := fin (.cmp .Eq (.bin .BitAnd (.var 0) (.var 4)) (.var 4)) (by
      rw [ht]
      exact E.cmp (u := .int (Builtin.bitAnd m b)) (E.bin (E.var rfl) (E.var rfl) rfl) (E.var rfl) rfl) (fun _ => rfl)
    have k2 := S.ff (x := [.ite (.cmp .Eq (.callf SI true [.var 0]) (.var 4)) [.expr (.meth .append (.var 1) [.var 5]), .brk] []]) (T.bool e) k
    induction test with
    | true => exact B.stop k2 (fun e => nomatch e)
    | false => exact B.cons k2 B.nil
theorem in_loop (hT : P.top = 34) (hS : P.fn SI = some ⟨1, false, [], 2, bSI⟩) {perm : List CV} (hl : perm.length ≤ 1000) (hlo : lo ≤ 34) (hd : dp ≠ 0) : ∀ (qs pre : List (Nat × Int × Nat)) (v4 v5 : Option CV), hp0[t]? = some (.tuple ((pre ++ qs).map fun q => .ref q.1)) → (∀ q ∈ qs, hp0[q.1]? = some (.tuple [.int q.2.1, .str ⟨#[q.2.2]⟩])) →
    ∃ w4 w5, Fo P (.seq true t pre.length) (.vars [4, 5]) (fIn SI) fElse (fSt m (some (.int ii)) (some (.ref t)) v4 v5 perm lo dp) .next (fSt m (some (.int ii)) (some (.ref t)) w4 w5 (perm ++ [.str ⟨#[if ii = 0 then pickN (fun b => Builtin.bitAnd m 61440 == b) 63 (qs.map (·.2)) else pickN (fun b => Builtin.bitAnd m b == b) 45 (qs.map (·.2))]⟩]) lo dp) := by
  intro qs
  induction qs with
  | nil =>
    intro pre v4 v5 ht _
    exact ⟨v4, v5, F.done (by rw [nx_tuple (get_push ht) hd, fin]; rfl) (else_ok hl hlo)⟩
  | cons q qs ih =>
    intro pre v4 v5 ht hq
    obtain ⟨qr, b, c⟩ := q
    have h1 := hq _ (.head _)
    have hb := in_ok (ii := ii) (m := m) (a3 := some (.ref t)) (b := b) (c := c) hT hS hl hlo hd _ rfl
    have hn : nextI (.seq true t pre.length) (fSt m (some (.int ii)) (some (.ref t)) v4 v5 perm lo dp) = some (some (.one (.ref qr), .seq true t (pre.length + 1))) := by
      rw [nx_tuple (get_push ht) hd, mid]; rfl
    have ha : asgI (.vars [4, 5]) (.one (.ref qr)) (fSt m (some (.int ii)) (some (.ref t)) v4 v5 perm lo dp) = some ((), fSt m (some (.int ii)) (some (.ref t)) (some (.int b)) (some (.str ⟨#[c]⟩)) perm lo dp) := by
      show guardD _ _ = _
      unfold guardD
      rw [if_neg hd]
      unfold Mine.bnd
      rw [look_ok (get_push h1)]; rfl
    by_cases hc : (if ii = 0 then (Builtin.bitAnd m 61440 == b) else (Builtin.bitAnd m b == b)) = true
    · rw [hc] at hb
      refine ⟨some (.int b), some (.str ⟨#[c]⟩), ?_⟩
      have k := F.brk (y := fElse) hn ha hb
      have e : (if ii = 0 then pickN (fun b => Builtin.bitAnd m 61440 == b) 63 (((qr, b, c) :: qs).map (·.2)) else pickN (fun b => Builtin.bitAnd m b == b) 45 (((qr, b, c) :: qs).map (·.2))) = c := by
        by_cases h : ii = 0
        · rw [if_pos h] at hc ⊢; simp [pickN, hc]
        · rw [if_neg h] at hc ⊢; simp [pickN, hc]
      rw [e]; exact k
    · have hc : (if ii = 0 then (Builtin.bitAnd m 61440 == b) else (Builtin.bitAnd m b == b)) = false := Bool.eq_false_iff.mpr hc
      rw [hc] at hb
      obtain ⟨w4, w5, k⟩ := ih (pre ++ [(qr, b, c)]) (some (.int b)) (some (.str ⟨#[c]⟩)) (by rw [ht]; simp) (fun q hq' => hq q (.tail _ hq'))
      refine ⟨w4, w5, F.turn hn ha hb (.inl rfl) ?_⟩
      rw [List.length_append] at k
      have e : (if ii = 0 then pickN (fun b => Builtin.bitAnd m 61440 == b) 63 (((qr, b, c) :: qs).map (·.2)) else pickN (fun b => Builtin.bitAnd m b == b) 45 (((qr, b, c) :: qs).map (·.2))) = (if ii = 0 then pickN (fun b => Builtin.bitAnd m 61440 == b) 63 (qs.map (·.2)) else pickN (fun b => Builtin.bitAnd m b == b) 45 (qs.map (·.2))) := by
        by_cases h : ii = 0
        · rw [if_pos h] at hc; simp only [if_pos h]; simp [pickN, hc]
        · rw [if_neg h] at hc; simp only [if_neg h]; simp [pickN, hc]
      rw [e]; exact k
theorem nx_enm {st : St} {t i : Nat} {xs : List CV} (h : st.heap[t]? = some (.tuple xs)) (hd : st.dep ≠ 0) : nextI (.enm true t i) st = some (xs[i]?.map fun v => (.two (.int i) v, .enm true t (i + 1))) := by
  unfold nextI
  rw [if_neg hd]
  unfold nextI0
  simp only [h, Option.bind_some, seqOf, if_true]
  cases xs[i]? <;> rfl
theorem out_loop (hT : P.top = 34) (hS : P.fn SI = some ⟨1, false, [], 2, bSI⟩) (hlo : lo ≤ 34) (hd : dp ≠ 0) : ∀ (ts : List (List (Nat × Int × Nat))) (i : Nat) (perm : List CV) (v2 v3 v4 v5 : Option CV), tabs.drop i = ts → i + ts.length = 10 → perm.length + ts.length ≤ 1000 →
    ∃ w2 w3 w4 w5, Fo P (.enm true 0 i) (.vars [2, 3]) [.for (.vars [4, 5]) (.plain (.var 3)) (fIn SI) fElse] [] (fSt m v2 v3 v4 v5 perm lo dp) .next (fSt m w2 w3 w4 w5 (perm ++ chs m i ts) lo dp) := by
  intro ts
  induction ts with
  | nil =>
    intro i perm v2 v3 v4 v5 _ hi _
    have hi : i = 10 := by simpa using hi
    subst hi
    refine ⟨v2, v3, v4, v5, ?_⟩
    rw [show chs m 10 [] = [] from rfl, List.append_nil]
    refine F.done ?_ B.nil
    rw [nx_enm (get_push tab0) hd]; rfl
  | cons q ts ih =>
    intro i perm v2 v3 v4 v5 hdr hi hl
    simp only [List.length_cons] at hi hl
    have hi10 : i < 10 := by omega
    have hq : tabs[i]? = some q := by
      have : (tabs.drop i)[0]? = some q := by rw [hdr]; rfl
      rw [List.getElem?_drop] at this; exact this
    have h1 := tab_at i hi10
    have h2 := tab_in i hi10
    rw [hq] at h1 h2
    simp only [Option.getD_some] at h1 h2
    have hn : nextI (.enm true 0 i) (fSt m v2 v3 v4 v5 perm lo dp) = some (some (.two (.int i) (.ref (i + 1)), .enm true 0 (i + 1))) := by
      rw [nx_enm (get_push tab0) hd, List.getElem?_map, List.getElem?_range hi10]; rfl
    obtain ⟨w4, w5, k⟩ := in_loop (m := m) (t := i + 1) (ii := (i : Int)) (perm := perm) hT hS (by omega) hlo hd q [] v4 v5 h1 h2
    have he : (if ((i : Nat) : Int) = 0 then pickN (fun b => Builtin.bitAnd m 61440 == b) 63 (q.map (·.2)) else pickN (fun b => Builtin.bitAnd m b == b) 45 (q.map (·.2))) = chN m i q := by
      unfold chN
      by_cases h : i = 0
      · subst h; rfl
      · rw [if_neg h, if_neg (by omega)]
    rw [he] at k
    obtain ⟨x2, x3, x4, x5, k2⟩ := ih (i + 1) (perm ++ [.str ⟨#[chN m i q]⟩]) (some (.int i)) (some (.ref (i + 1))) w4 w5 (by rw [← List.drop_drop, hdr]; rfl) (by omega) (by rw [List.length_append]; show perm.length + 1 + _ ≤ _; omega)
    refine ⟨x2, x3, x4, x5, F.turn hn (u := ()) (st1 := fSt m (some (.int i)) (some (.ref (i + 1))) v4 v5 perm lo dp) ?_ (f := .next) (B.cons (S.loop (I.tuple (E.var rfl) (get_push h1)) k) B.nil) (.inl rfl) ?_⟩
    · show guardD _ _ = _
      unfold guardD
      rw [if_neg hd]; rfl
    · rw [show chs m i (q :: ts) = .str ⟨#[chN m i q]⟩ :: chs m (i + 1) ts from rfl, show perm ++ CV.str ⟨#[chN m i q]⟩ :: chs m (i + 1) ts = (perm ++ [.str ⟨#[chN m i q]⟩]) ++ chs m (i + 1) ts by simp]
      exact k2
theorem join_is (x : Str) (a : CV) (st : St) : primV .join [.str x, a] st = Mine.bnd (look a) (fun o => match o.2 with
    | .list xs => match strsOf xs with
      | some ys => if decide (x.length ≤ 64) && decide (ys.length ≤ 10000) && decide (sumLen ys ≤ 1000000) then Mine.rt (.str (Txt.join x ys)) else no
      | none => no
    | _ => no) st := rfl
theorem filemode_ok (hT : P.top = 34) (hS : P.fn SI = some ⟨1, false, [], 2, bSI⟩) {fa : Addr} (hF : P.fn fa = some ⟨1, false, [], 6, bFm SI⟩) (hd : 1 < dp) : C P fa [.int m] (T1 [] dp) (.str (fmS m)) ⟨[], hp0 ++ [.list (chs m 0 tabs)], 34, dp⟩ := by
  obtain ⟨w2, w3, w4, w5, k⟩ := out_loop (m := m) (dp := dp - 1) (lo := 34) hT hS (Nat.le_refl _) (by omega) tabs 0 [] none none none none rfl rfl (by decide)
  refine C.ret2 _ (L2 := [some (.int m), some (.ref 34), w2, w3, w4, w5]) (lo2 := 34) (dp2 := dp - 1) hF (by unfold callOk; simp [givenV]; omega) ?_
  rw [bFm_is]
  refine B.cons (st1 := fSt m none none none none [] 34 (dp - 1)) (S.set (st1 := ⟨[some (.int m), none, none, none, none, none], hp0 ++ [.list []], 34, dp - 1⟩) (E.list Es.nil rfl) (by show 1 < 6; omega)) ?_
  refine B.cons (S.loop (i := .enm true 0 0) (st1 := fSt m none none none none [] 34 (dp - 1)) ?_ k) ?_
  · exact JM.bnd (k := fun _ v => Mine.bnd (look v) fun o => match o.2 with
      | .list _ => Mine.rt (It.enm false o.1 0)
      | .tuple _ => Mine.rt (It.enm true o.1 0)
      | _ => no) E.glob (JM.bnd (JM.pure (look_ok (get_push tab0))) (JM.rt _))
  refine B.stop (S.ret (E.meth (u := .str ⟨#[]⟩) (un := ()) E.const rfl (Es.one (E.var (v := .ref 34) rfl)) ?_)) (fun e => nomatch e)
  rw [join_is]
  unfold Mine.bnd
  rw [look_ok (o := .list (chs m 0 tabs)) rfl]
  rfl
end
end Pl
end Mine
end

section
set_option genSizeOf false
set_option genInjectivity false
namespace Mine
namespace Pl
noncomputable abbrev mReady : Str := ⟨#[103, 101, 116, 95, 114, 101, 97, 100, 121]⟩
noncomputable abbrev mActive : Str := ⟨#[105, 115, 95, 97, 99, 116, 105, 118, 101]⟩
noncomputable abbrev mDone : Str := ⟨#[100, 111, 110, 101]⟩
structure SrtM (P : Prog) (CT : Addr) : Prop where
  act : ∃ k f, P.cls CT = some k ∧ k.meths.lookup mActive = some f ∧ P.fn f = some ⟨1, false, [], 2, bActive⟩
  rdy : ∃ k f, P.cls CT = some k ∧ k.meths.lookup mReady = some f ∧ P.fn f = some ⟨1, false, [], 4, bReady⟩
  don : ∃ k f, P.cls CT = some k ∧ k.meths.lookup mDone = some f ∧ P.fn f = some ⟨1, true, [], 8, bDone⟩
section
variable {P : Prog} {CN CT : Addr} {H : List CO} {lo s d r ep : Nat} {ns : List (Str × Nat × Nat)} {np : Str → Int} {sc : Str → List Str} {rd : List Str} {po nf : Int} {dp : Nat} {L : List (Option CV)}
theorem self_at (k : Cls) (hk : P.cls CT = some k) (a b c d' : CV) (x : Str) (hx : (lkS [(sN2i, a), (sRdy, b), (sPo, c), (sNf, d')] x).isSome = false) : (isSelf x (.inst CT [(sN2i, a), (sRdy, b), (sPo, c), (sNf, d')])).bind P.cls = some k := by
  unfold isSelf
  simp only [hx, Bool.false_eq_true, if_false, Option.bind_some, hk]
theorem active_call (hP : SrtP P CN CT) (hM : SrtM P CT) (R : Srt CN CT H lo s d r ep ns np sc rd po nf) (hl : rd.length ≤ 1000000) (hd : dp ≠ 0) {i : Nat} (hi : L[i]? = some (some (.ref s))) :
    E P (.callm (.var i) mActive false [] none) ⟨L, H, lo, dp⟩ (.bool (decide (nf < po) || !rd.isEmpty)) ⟨L, H, lo, dp⟩ := by
  obtain ⟨k, f, h1, h2, h3⟩ := hM.act
  exact E.callm (E.var hi) R.hs (self_at k h1 _ _ _ _ _ rfl) h2 Es.nil (C.ret2 _ (lo2 := lo) (dp2 := dp - 1) (L2 := [some (.ref s), none]) h3 (by unfold callOk; simp [givenV, hd]) (active_ok hP R hl))
theorem ready_call (hP : SrtP P CN CT) (hM : SrtM P CT) (R : Srt CN CT H lo s d r ep ns np sc rd po nf) (hl : rd.length ≤ 1000000) (hrd : ∀ y ∈ rd, y ∈ ns.map (·.1)) (hd : 1 < dp) {i : Nat} (hi : L[i]? = some (some (.ref s))) :
    ∃ H', E P (.callm (.var i) mReady false [] none) ⟨L, H, lo, dp⟩ (.ref H.length) ⟨L, H', lo, dp⟩ ∧ H'[H.length]? = some (.tuple (rd.map .str)) ∧ Srt CN CT H' lo s d r ep ns (updL np (-1) rd) sc [] (po + rd.length) nf ∧ Fr r H H' := by
  obtain ⟨k, f, h1, h2, h3⟩ := hM.rdy
  obtain ⟨v3, H', g1, g2, g3, g4⟩ := ready_ok (dp := dp - 1) hP (by omega) R hl hrd
  exact ⟨H', E.callm (E.var hi) R.hs (self_at k h1 _ _ _ _ _ rfl) h2 Es.nil (C.ret2 _ (lo2 := lo) (dp2 := dp - 1) (L2 := [some (.ref s), some (.ref H.length), some (.ref d), v3]) h3 (by unfold callOk; simp [givenV]; omega) g1), g2, g3, g4⟩
theorem done_call (hP : SrtP P CN CT) (hM : SrtM P CT) (R : Srt CN CT H lo s d r ep ns np sc rd po nf) {x : Str × Nat × Nat} (hx : x ∈ ns) (hnp : np x.1 = -1) (hsc : ∀ y ∈ sc x.1, y ∈ ns.map (·.1)) (hl : rd.length + (sc x.1).length ≤ 1000000) (hd : 1 < dp) {i : Nat} {a : CE} {st : St} (ho : E P (.var i) st (.ref s) st) (hs : st.heap[s]? = some (.inst CT [(sN2i, .ref d), (sRdy, .ref r), (sPo, .int po), (sNf, .int nf)])) (ha : E P a st (.str x.1) ⟨L, H, lo, dp⟩) :
    ∃ H', E P (.callm (.var i) mDone false [a] none) st .none ⟨L, H', lo, dp⟩ ∧ Srt CN CT H' lo s d r ep ns (doneS (upd np x.1 (-2)) rd (sc x.1)).1 sc (doneS (upd np x.1 (-2)) rd (sc x.1)).2 po (nf + 1) ∧ Fr r H H' := by
  obtain ⟨k, f, h1, h2, h3⟩ := hM.don
  obtain ⟨H', g1, g2, g3⟩ := done_ok (L := L) hP h3 hd R hx hnp hsc hl
  exact ⟨H', E.callm ho hs (self_at k h1 _ _ _ _ _ rfl) h2 (Es.one ha) g1, g2, g3⟩
theorem wait_step (hP : SrtP P CN CT) (hM : SrtM P CT) (R : Srt CN CT H lo s d r ep ns np sc rd po nf) {wt : List Str} (hl : rd.length ≤ 1000) (hw : wt.length ≤ 1000) (hrd : ∀ y ∈ rd, y ∈ ns.map (·.1)) (hd : 1 < dp) {i w kw : Nat} (hi : L[i]? = some (some (.ref s))) (hwi : L[w]? = some (some (.ref kw))) (hkw : H[kw]? = some (.list (wt.map .str))) (hkr : kw ≠ r) (hku : ∀ x ∈ ns, kw ≠ x.2.2) (hlo : lo ≤ kw) :
    ∃ H', S P (.aug w .Add (.prim .listOf [.callm (.var i) mReady false [] none])) ⟨L, H, lo, dp⟩ .next ⟨L.set w (some (.ref kw)), H', lo, dp⟩ ∧ H'[kw]? = some (.list ((wt ++ rd).map .str)) ∧ Srt CN CT H' lo s d r ep ns (updL np (-1) rd) sc [] (po + rd.length) nf ∧ (∀ k o, H[k]? = some o → k ≠ r → k ≠ kw → plainO o = true → H'[k]? = some o) := by
  obtain ⟨H1, g1, g2, R1, f1⟩ := ready_call hP hM R (by omega) hrd hd hi
  have hk1 : H1[kw]? = some (.list (wt.map .str)) := f1.at_ _ _ hkw hkr rfl
  have hk2 : (H1 ++ [CO.list (rd.map .str)])[kw]? = some (.list (wt.map .str)) := get_push hk1
  have R2 := R1.push (.list (rd.map .str))
  have R3 := R2.other (o' := .list ((wt ++ rd).map .str)) hk2 ⟨_, rfl⟩ hkr hku
  have e1 : E P (.prim .listOf [.callm (.var i) mReady false [] none]) ⟨L, H, lo, dp⟩ (.ref H1.length) ⟨L, H1 ++ [.list (rd.map .str)], lo, dp⟩ := by
    refine E.prim (Es.one g1) ?_
    show Mine.bnd (look (.ref H.length)) _ _ = _
    unfold Mine.bnd
    rw [look_ok g2]
    simp only [lenS (show rd.length ≤ 1000000 by omega), if_true]
    rfl
  have hwl : w < L.length := (List.getElem?_eq_some_iff.mp hwi).1
  refine ⟨(H1 ++ [CO.list (rd.map .str)]).set kw (.list ((wt ++ rd).map .str)), S.aug (z := .ref kw) (st3 := ⟨L, (H1 ++ [CO.list (rd.map .str)]).set kw (.list ((wt ++ rd).map .str)), lo, dp⟩) hwi e1 ?_ hwl, get_set hk2, R3, fun k o hk h1 h2 h3 => ?_⟩
  · show Mine.bnd (look (.ref kw)) _ _ = _
    unfold Mine.bnd
    rw [look_ok (by exact hk2)]
    show Mine.bnd (look (.ref H1.length)) _ _ = _
    unfold Mine.bnd
    rw [look_ok (o := .list (rd.map .str)) get_end]
    simp only [lenS (show rd.length ≤ 1000000 by omega), lenS (show wt.length ≤ 1000000 by omega), Bool.and_self, if_true]
    rw [← List.map_append]
    unfold put
    simp only [hlo, if_true]
    rfl
  · rw [get_ne (fun e => h2 e.symm)]
    exact get_push (f1.at_ _ _ hk h1 h3)
theorem len_ok {st : St} {k : Nat} {xs : List CV} (hk : st.heap[k]? = some (.list xs)) (hl : xs.length ≤ 1000000) : primV .len [.ref k] st = some (.int xs.length, st) := by
  show Mine.bnd (look (.ref k)) _ _ = _
  unfold Mine.bnd
  rw [look_ok hk]
  simp only [show lenOk xs = true from decide_eq_true hl, if_true]
  rfl
theorem popAt_ok {st : St} {t : Nat} {xs : List CV} {v : CV} {j : Int} (h : st.heap[t]? = some (.list xs)) (hj : decide (0 ≤ j) = true) (hv : xs[j.toNat]? = some v) (hl : xs.length ≤ 1000000) (hlo : st.lo ≤ t) : primV .popAt [.ref t, .int j] st = some (v, { st with heap := st.heap.set t (.list (xs.eraseIdx j.toNat)) }) := by
  show Mine.bnd (look (.ref t)) (fun o => match o.2 with
    | .list xs => match (if decide (0 ≤ j) && lenOk xs then xs[j.toNat]? else none) with
      | some v => Mine.bnd (put o.1 (.list (xs.eraseIdx j.toNat))) fun _ => rt v
      | none => no
    | _ => no) st = _
  unfold Mine.bnd
  rw [look_ok h]
  simp only [hj, show lenOk xs = true from decide_eq_true hl, Bool.and_self, if_true, hv]
  unfold put
  simp only [hlo, if_true]
  rfl
theorem mod_ok {st : St} {x y : Int} (hn : y ≠ 0) : binV .Mod (.int x) (.int y) st = some (.int (x.fmod y), st) := by
  have : binI .Mod x y = some (x.fmod y) := by
    show (if y = 0 then none else some (x.fmod y)) = _
    rw [if_neg hn]
  show (match binI .Mod x y with | some z => rt (CV.int z) | none => no) _ = _
  rw [this]; rfl
theorem fdiv_ok {st : St} {x y : Int} (hn : (decide (0 < y) && decide (y < 1000000)) = true) : binV .FloorDiv (.int x) (.int y) st = some (.int (x.fdiv y), st) := by
  show (match binI .FloorDiv x y with | some z => rt (CV.int z) | none => no) _ = _
  have : binI .FloorDiv x y = some (x.fdiv y) := by
    unfold binI
    simp only [hn, if_true]
  rw [this]; rfl
structure AS where
  np : Str → Int
  rd : List Str
  po : Int
  nf : Int
  wt : List Str
  od : List Str
noncomputable def AS.ready (a : AS) : AS := { a with np := updL a.np (-1) a.rd, rd := [], po := a.po + a.rd.length, wt := a.wt ++ a.rd }
noncomputable def AS.fin (sc : Str → List Str) (a : AS) (i : Nat) (x : Str) : AS :=
  { np := (doneS (upd a.np x (-2)) a.rd (sc x)).1, rd := (doneS (upd a.np x (-2)) a.rd (sc x)).2, po := a.po, nf := a.nf + 1, wt := a.wt.eraseIdx i, od := a.od ++ [x] }
noncomputable def ways (names : List Str) (sc : Str → List Str) : Nat → AS → Option (List (List Str))
  | 0, _ => none
  | n + 1, a => if decide (a.nf < a.po) || !a.rd.isEmpty then
      let b := a.ready
      if a.rd.all (fun y => names.contains y) && decide (a.rd.length ≤ 100) && decide (a.wt.length ≤ 100) && decide (0 < b.wt.length) && decide (a.od.length ≤ 100) then
        (List.range b.wt.length).foldr (fun i acc => match acc, b.wt[i]? with
          | some l, some x => if decide (b.np x = -1) && names.contains x && (sc x).all (fun y => names.contains y) && decide ((sc x).length ≤ 100) then (match ways names sc n (b.fin sc i x) with
            | some l' => some (l' ++ l)
            | none => none) else none
          | _, _ => none) (some [])
      else none
    else some [a.od]
theorem fold_some {α β : Type} {f : β → Option (List α) → Option (List α)} (hf : ∀ b, f b none = none) (hm : ∀ b l r, f b (some l) = some r → ∃ l', r = l' ++ l) : ∀ (xs : List β) (r : List α), xs.foldr f (some []) = some r → ∀ x ∈ xs, ∃ l l' , f x (some l) = some (l' ++ l) ∧ ∀ y ∈ l' ++ l, y ∈ r := by
  intro xs
  induction xs with
  | nil => intro r _ x hx; (first | exact nope hx | refine rt_elim hx ?_ | refine some_elim hx ?_ | cases hx)
  | cons b bs ih =>
    intro r h x hx
    rw [List.foldr_cons] at h
    cases q : bs.foldr f (some []) with
    | none => rw [q, hf] at h; (first | exact nope h | refine rt_elim h ?_ | refine some_elim h ?_ | cases h)
    | some r0 =>
      rw [q] at h
      obtain ⟨l', rfl⟩ := hm _ _ _ h
      rcases List.mem_cons.mp hx with rfl | hx
      · exact ⟨r0, l', h, fun y hy => hy⟩
      · obtain ⟨l, l2, g1, g2⟩ := ih r0 q x hx
        exact ⟨l, l2, g1, fun y hy => List.mem_append_right _ (g2 y hy)⟩
theorem ways_stop {names : List Str} {sc : Str → List Str} {n : Nat} {a : AS} {l : List (List Str)} (h : ways names sc n a = some l) (ha : (decide (a.nf < a.po) || !a.rd.isEmpty) = false) : a.od ∈ l := by
  cases n with
  | zero => (first | exact nope h | refine rt_elim h ?_ | refine some_elim h ?_ | cases h)
  | succ n =>
    unfold ways at h
    rw [if_neg (by rw [ha]; exact Bool.false_ne_true)] at h
    (first | exact nope h | refine rt_elim h ?_ | refine some_elim h ?_ | cases h)
    exact .head _
theorem ways_step {names : List Str} {sc : Str → List Str} {n : Nat} {a : AS} {l : List (List Str)} (h : ways names sc (n + 1) a = some l) (ha : (decide (a.nf < a.po) || !a.rd.isEmpty) = true) :
    (∀ y ∈ a.rd, y ∈ names) ∧ a.rd.length ≤ 100 ∧ a.wt.length ≤ 100 ∧ 0 < a.ready.wt.length ∧ a.od.length ≤ 100 ∧ ∀ (i : Nat) (x : Str), a.ready.wt[i]? = some x → a.ready.np x = -1 ∧ x ∈ names ∧ (∀ y ∈ sc x, y ∈ names) ∧ (sc x).length ≤ 100 ∧ ∃ l', ways names sc n (a.ready.fin sc i x) = some l' ∧ ∀ o ∈ l', o ∈ l := by
  unfold ways at h
  rw [if_pos ha] at h
  dsimp only at h
  split at h
  · rename_i hc
    simp only [Bool.and_eq_true, decide_eq_true_eq, List.all_eq_true, List.contains_iff_mem] at hc
    obtain ⟨⟨⟨⟨h1, h2⟩, h3⟩, h4⟩, h5⟩ := hc
    refine ⟨h1, h2, h3, h4, h5, fun i x hx => ?_⟩
    have hi : i < a.ready.wt.length := (List.getElem?_eq_some_iff.mp hx).1
    obtain ⟨l0, l1, g1, g2⟩ := fold_some (fun b => by rfl) (fun b l r e => by
      split at e
      · rename_i q1 q2
        cases q1
        split at e
        · split at e
          · cases e; exact ⟨_, rfl⟩
          · (first | exact nope e | refine rt_elim e ?_ | refine some_elim e ?_ | cases e)
        · (first | exact nope e | refine rt_elim e ?_ | refine some_elim e ?_ | cases e)
      · cases e) _ _ h i (List.mem_range.mpr hi)
    simp only [hx] at g1
    split at g1
    · rename_i hk
      simp only [Bool.and_eq_true, decide_eq_true_eq, List.all_eq_true, List.contains_iff_mem] at hk
      split at g1
      · rename_i l' hw
        have g3 := List.append_cancel_right (Option.some.inj g1)
        exact ⟨hk.1.1.1, hk.1.1.2, hk.1.2, hk.2, l', hw, fun o ho => g2 o (List.mem_append_left _ (g3 ▸ ho))⟩
      · (first | exact nope g1 | refine rt_elim g1 ?_ | refine some_elim g1 ?_ | cases g1)
    · (first | exact nope g1 | refine rt_elim g1 ?_ | refine some_elim g1 ?_ | cases g1)
  · (first | exact nope h | refine rt_elim h ?_ | refine some_elim h ?_ | cases h)
theorem idx_some {xs : List Str} {x : Str} (h : x ∈ xs) : idxOf xs x = some ((idxOf xs x).getD 0) := by
  induction xs with
  | nil => (first | exact nope h | refine rt_elim h ?_ | refine some_elim h ?_ | cases h)
  | cons y r ih =>
    unfold idxOf
    by_cases e : y = x
    · rw [if_pos e]; rfl
    · rw [if_neg e]
      have := ih (by
        rcases List.mem_cons.mp h with rfl | h
        · exact absurd rfl e
        · exact h)
      rw [this]; rfl
theorem strs_map : ∀ xs : List Str, strsOf (xs.map .str) = some xs
  | [] => rfl
  | x :: r => by show (strsOf (r.map .str)).map (x :: ·) = _; rw [strs_map r]; rfl
theorem index_ok {st : St} {t : Nat} {names : List Str} {x : Str} (h : st.heap[t]? = some (.list (names.map .str))) (hx : x ∈ names) (hl : names.length ≤ 1000000) : primV .index [.ref t, .str x] st = some (.int ((idxOf names x).getD 0 : Nat), st) := by
  show Mine.bnd (look (.ref t)) (fun o => match o.2 with
    | .list xs => match (if lenOk xs then idxS xs x else none) with
      | some i => rt (CV.int i)
      | none => no
    | _ => no) st = _
  unfold Mine.bnd
  rw [look_ok h]
  have hi : idxS (names.map .str) x = some ((idxOf names x).getD 0) := by
    unfold idxS
    rw [strs_map]
    exact idx_some hx
  simp only [lenS hl, if_true, hi]
  rfl
theorem len_done (np : Str → Int) : ∀ (ys rd : List Str), (doneS np rd ys).2.length ≤ rd.length + ys.length := by
  intro ys
  induction ys generalizing np with
  | nil => intro rd; exact Nat.le_refl _
  | cons y ys ih =>
    intro rd
    show (doneS (upd np y (np y - 1)) (if np y - 1 = 0 then rd ++ [y] else rd) ys).2.length ≤ _
    refine Nat.le_trans (ih _ _) ?_
    simp only [List.length_cons]
    split
    · rw [List.length_append]; show rd.length + 1 + _ ≤ _; omega
    · omega
theorem erase_map {α β : Type} (f : α → β) : ∀ (xs : List α) (i : Nat), (xs.map f).eraseIdx i = (xs.eraseIdx i).map f
  | [], _ => rfl
  | _ :: _, 0 => rfl
  | x :: r, i + 1 => by
    show f x :: (r.map f).eraseIdx i = f x :: (r.eraseIdx i).map f
    rw [erase_map f r i]
end
end Pl
end Mine
end

section
set_option genSizeOf false
set_option genInjectivity false
namespace Mine
namespace Pl
section
variable {P : Prog} {st st1 st2 st3 st' : St}
theorem cp_plain {H : List CO} {T d : Nat} : ∀ {v : CV} {a : Cp}, isV v = true → cpV H T d v a = some (v, a)
  | .none, _, _ => by cases d <;> rfl
  | .bool _, _, _ => by cases d <;> rfl
  | .int _, _, _ => by cases d <;> rfl
  | .str _, _, _ => by cases d <;> rfl
  | .ref _, _, h => by cases h
  | .lit _, _, h => by cases h
theorem cpL_plain {H : List CO} {T d : Nat} {a : Cp} : ∀ {xs : List CV}, (∀ x ∈ xs, isV x = true) → cpL (cpV H T d) xs a = some (xs, a)
  | [], _ => rfl
  | x :: r, h => by
    unfold cpL
    rw [cp_plain (h x (.head _))]
    dsimp only
    rw [cpL_plain (fun y hy => h y (.tail _ hy))]
theorem cp_list {H : List CO} {T d k : Nat} {xs : List CV} {a : Cp} (hk : T ≤ k) (h : H[k]? = some (.list xs)) (hp : ∀ x ∈ xs, isV x = true) : cpV H T (d + 1) (.ref k) a = some (.ref (T + a.1.length), (a.1 ++ [.list xs], a.2 ++ [k])) := by
  unfold cpV
  rw [if_neg (by omega)]
  simp only [h]
  have : cpO (cpV H T d) (.list xs) a = some (.list xs, a) := by
    show (cpL (cpV H T d) xs a).map _ = _
    rw [cpL_plain hp]; rfl
  rw [this]
theorem top_flat (R : List CO) : topFlat 34 (hp0 ++ R) = true := rfl
theorem top_take (R : List CO) : (hp0 ++ R).take 34 = hp0 := rfl
theorem E.neg {x : CE} {i : Int} (h : E P x st (.int i) st1) : E P (.neg x) st (.int (-i)) st1 := JM.up (JM.bnd (k := fun _ x => match x with | .int i => Mine.rt (CV.int (-i)) | _ => no) h (JM.rt _)) fun _ => rfl
theorem comp_rng {ts : List Nat} {el : CE} (f : Int → CV) (Inv : St → Prop) (hd : ∀ st, Inv st → st.dep ≠ 0) : ∀ (xs : List Int), (∀ x ∈ xs, ∀ st, Inv st → ∃ u st1 st2, asgI (tsT ts) (.one (.int x)) st = some (u, st1) ∧ E P el st1 (f x) st2 ∧ Inv st2) →
    ∀ st acc, Inv st → ∃ st', G P (.rng xs) ts [] el acc st (acc ++ xs.map f) st' := by
  intro xs
  induction xs with
  | nil =>
    intro _ st acc h
    exact ⟨st, by rw [List.map_nil, List.append_nil]; exact G.done (nx_rng0 (hd st h))⟩
  | cons x r ih =>
    intro hx st acc h
    obtain ⟨u, s1, s2, g1, g2, g3⟩ := hx x (.head _) st h
    obtain ⟨st', k⟩ := ih (fun y hy => hx y (.tail _ hy)) s2 (acc ++ [f x]) g3
    refine ⟨st', ?_⟩
    rw [List.map_cons, show acc ++ f x :: r.map f = (acc ++ [f x]) ++ r.map f by simp]
    exact G.turn (nx_rng (hd st h)) g1 All.nil g2 k
theorem len_cons {α : Type} {P : List α → Prop} {n : Nat} (k : ∀ (a : α) (xs : List α), xs.length = n → P (a :: xs)) : ∀ xs : List α, xs.length = n + 1 → P xs := by
  intro xs h
  cases xs with
  | nil => exact Nat.noConfusion h
  | cons a xs => exact k a xs (Nat.succ.inj h)
theorem len_nil {α : Type} {P : List α → Prop} (k : P []) : ∀ xs : List α, xs.length = 0 → P xs := by
  intro xs h
  cases xs with
  | nil => exact k
  | cons a xs => exact Nat.noConfusion h
end
end Pl
end Mine
end

section
set_option genSizeOf false
set_option genInjectivity false
namespace Mine
namespace Pl
section
variable {P : Prog} {st st1 st2 st3 st' : St}
theorem for_rng {α : Type} {t : CT} {body : List CS} (f : α → Int → α) (Inv : α → St → Prop) (hd : ∀ a st, Inv a st → st.dep ≠ 0) : ∀ (xs : List Int), (∀ a x st, x ∈ xs → Inv a st → ∃ u st1 st2, asgI t (.one (.int x)) st = some (u, st1) ∧ B P body st1 .next st2 ∧ Inv (f a x) st2) →
    ∀ a st, Inv a st → ∃ st', Fo P (.rng xs) t body [] st .next st' ∧ Inv (xs.foldl f a) st' := by
  intro xs
  induction xs with
  | nil => intro _ a st h; exact ⟨st, F.done (nx_rng0 (hd a st h)) B.nil, h⟩
  | cons x r ih =>
    intro hx a st h
    obtain ⟨u, s1, s2, g1, g2, g3⟩ := hx a x st (.head _) h
    obtain ⟨st', k1, k2⟩ := ih (fun a y s hy => hx a y s (.tail _ hy)) (f a x) s2 g3
    exact ⟨st', F.turn (nx_rng (hd a st h)) g1 g2 (.inl rfl) k1, k2⟩
theorem JM.guard {α : Type} {c : Ev → M α} {a : α} (hd : st.dep ≠ 0) (h : JM P c st a st') : JM P (fun s => guardD (c s)) st a st' := by
  obtain ⟨n, h⟩ := h
  refine ⟨n, fun m hm => ?_⟩
  show guardD _ st = _
  unfold guardD
  rw [if_neg hd]; exact h m hm
theorem I.range1 {x : CE} {b : Int} (h : E P x st (.int b) st1) (hr : rOk 0 b 1 = true) : I P (.range [x]) st (.rng (rangeL 0 b 1)) st1 := by
  obtain ⟨n, h⟩ := Es.one h
  refine ⟨n, fun m hm => ?_⟩
  have h2 := h m hm
  show evI (run P m) (.range [x]) st = _
  unfold evI Mine.bnd
  simp only [h2, hr, if_true]
  rfl
theorem shl_ok {n : Nat} (hn : n ≤ 60) : binV .LShift (.int 1) (.int n) st = some (.int (2 ^ n), st) := by
  have : binI .LShift 1 (n : Int) = some (2 ^ n) := by
    unfold binI
    have h1 : decide (0 ≤ (n : Int)) = true := by simp
    have h2 : decide ((n : Int) ≤ 60) = true := by simp; omega
    simp only [h1, h2]
    show some (1 * 2 ^ (n : Int).toNat) = _
    rw [Int.toNat_natCast, Int.one_mul]
  show (match binI .LShift 1 (n : Int) with | some z => rt (CV.int z) | none => no) _ = _
  rw [this]; rfl
theorem hasS_map (xs : List Str) (x : Str) : hasS (xs.map .str) x = some (decide (x ∈ xs)) := by
  unfold hasS
  rw [strs_map]
  show some (xs.any fun y => y == x) = _
  congr 1
  rw [Bool.eq_iff_iff]
  simp
theorem in_list {t : Nat} {xs : List Str} {x : Str} (h : st.heap[t]? = some (.list (xs.map .str))) : cmpV .In (.str x) (.ref t) st = some (.bool (decide (x ∈ xs)), st) := by
  show Mine.bnd (look (.ref t)) (fun o => match inO (.str x) o.2 with
    | some r => Mine.rt (CV.bool r)
    | none => no) st = _
  unfold Mine.bnd
  rw [look_ok h]
  show (match hasS (xs.map .str) x with
    | some r => Mine.rt (CV.bool r)
    | none => no) st = _
  rw [hasS_map]; rfl
theorem notin_list {t : Nat} {xs : List Str} {x : Str} (h : st.heap[t]? = some (.list (xs.map .str))) : cmpV .NotIn (.str x) (.ref t) st = some (.bool (!decide (x ∈ xs)), st) := by
  show Mine.bnd (look (.ref t)) (fun o => match inO (.str x) o.2 with
    | some r => Mine.rt (CV.bool !r)
    | none => no) st = _
  unfold Mine.bnd
  rw [look_ok h]
  show (match hasS (xs.map .str) x with
    | some r => Mine.rt (CV.bool !r)
    | none => no) st = _
  rw [hasS_map]; rfl
noncomputable def one (c : Nat) : Str := ⟨#[c]⟩
theorem join_ok {t : Nat} {cs : List Nat} (h : st.heap[t]? = some (.list (cs.map fun c => .str (one c)))) (hl : cs.length = 9) : primV .join [.str ⟨#[]⟩, .ref t] st = some (.str ⟨cs.toArray⟩, st) := by
  suffices H : ∀ cs : List Nat, cs.length = 9 → st.heap[t]? = some (.list (cs.map fun c => .str (one c))) → primV .join [.str ⟨#[]⟩, .ref t] st = some (.str ⟨cs.toArray⟩, st) from H cs hl h
  clear h hl
  refine len_cons fun a => len_cons fun b => len_cons fun c => len_cons fun d => len_cons fun e => len_cons fun f => len_cons fun g => len_cons fun h => len_cons fun i => len_nil fun hh => ?_
  rw [join_is]
  unfold Mine.bnd
  rw [look_ok hh]
  rfl
theorem eq_one {c d : Nat} : cmpV .Eq (.str ⟨#[c]⟩) (.str ⟨#[d]⟩) st = some (.bool (decide (c = d)), st) := by
  show some (CV.bool ((⟨#[c]⟩ : Str) == ⟨#[d]⟩), st) = _
  have : ((⟨#[c]⟩ : Str) == ⟨#[d]⟩) = decide (c = d) := by
    rw [Bool.eq_iff_iff]; simp
  rw [this]
theorem pick_all {xs : List CV} (h : xs.length = 9) : pick xs none none none = xs := by
  suffices H : ∀ xs : List CV, xs.length = 9 → pick xs none none none = xs from H xs h
  refine len_cons fun a => len_cons fun b => len_cons fun c => len_cons fun d => len_cons fun e => len_cons fun f => len_cons fun g => len_cons fun h => len_cons fun i => len_nil (by kernel_rfl)
theorem lt10 {P : Nat → Prop} (h : P 0 ∧ P 1 ∧ P 2 ∧ P 3 ∧ P 4 ∧ P 5 ∧ P 6 ∧ P 7 ∧ P 8 ∧ P 9) {g : Nat} (hg : g < 10) : P g := by
  obtain ⟨h0, h1, h2, h3, h4, h5, h6, h7, h8, h9⟩ := h
  match g, hg with
  | 0, _ => exact h0
  | 1, _ => exact h1
  | 2, _ => exact h2
  | 3, _ => exact h3
  | 4, _ => exact h4
  | 5, _ => exact h5
  | 6, _ => exact h6
  | 7, _ => exact h7
  | 8, _ => exact h8
  | 9, _ => exact h9
theorem pick_take {xs : List CV} (h : xs.length = 9) {g : Nat} (hg : g < 10) : pick xs none (some (g : Int)) none = xs.take g := by
  suffices H : ∀ xs : List CV, xs.length = 9 → ∀ g : Nat, g < 10 → pick xs none (some (g : Int)) none = xs.take g from H xs h g hg
  clear h hg
  refine len_cons fun a => len_cons fun b => len_cons fun c => len_cons fun d => len_cons fun e => len_cons fun f => len_cons fun g' => len_cons fun h => len_cons fun i => len_nil fun g hg => ?_
  exact lt10 (P := fun g : Nat => pick [a, b, c, d, e, f, g', h, i] none (some (g : Int)) none = [a, b, c, d, e, f, g', h, i].take g) ⟨by kernel_rfl, by kernel_rfl, by kernel_rfl, by kernel_rfl, by kernel_rfl, by kernel_rfl, by kernel_rfl, by kernel_rfl, by kernel_rfl, by kernel_rfl⟩ hg
theorem setV_ok {t : Nat} {xs : List CV} {i : Nat} {v : CV} (h : st.heap[t]? = some (.list xs)) (hi : i < xs.length) (hl : xs.length ≤ 1000) (hlo : st.lo ≤ t) : setV (.ref t) (.int i) v st = some ((), { st with heap := st.heap.set t (.list (xs.set i v)) }) := by
  have key : ∀ {j : Int}, (decide (0 ≤ j) && decide (j < xs.length) && lenOk xs) = true → setV (.ref t) (.int j) v st = some ((), { st with heap := st.heap.set t (.list (xs.set j.toNat v)) }) := fun {j} hc => by
    show Mine.bnd (look (.ref t)) (fun o => match o.2, CV.int j with
      | .list xs, .int i => if decide (0 ≤ i) && decide (i < xs.length) && lenOk xs then put o.1 (.list (xs.set i.toNat v)) else no
      | .dictS es ep, .str s => if lenOk es then put o.1 (.dictS (putS es s v) (epUp (lkS es s).isSome ep)) else no
      | .dictI es ep, .int i => if lenOk es then put o.1 (.dictI (putI es i v) (epUp (lkI es i).isSome ep)) else no
      | _, _ => no) st = _
    unfold Mine.bnd
    rw [look_ok h]
    simp only [hc, if_true]
    unfold put
    simp only [hlo, if_true]
  have := key (j := (i : Int)) (by
    rw [decide_eq_true (Int.natCast_nonneg i), decide_eq_true (show (i : Int) < xs.length by omega), show lenOk xs = true from decide_eq_true (Nat.le_trans hl (by decide))]; rfl)
  rw [Int.toNat_natCast] at this
  exact this
theorem sub_dict {t : Nat} {es : List (Str × CV)} {ep : Nat} {x : Str} {v : CV} (h : st.heap[t]? = some (.dictS es ep)) (hx : lkS es x = some v) : subV (.ref t) (.str x) st = some (v, st) := by
  show Mine.bnd (look (.ref t)) _ st = _
  unfold Mine.bnd
  rw [look_ok h]
  simp only [hx]; rfl
theorem slice_ok {P : Prog} {st st1 st2 st3 st4 : St} {a : CE} {lo hi s : Option CE} {k : Nat} {l u t : CV} {l' u' t' : Option Int} {xs : List CV} (h : E P a st (.ref k) st1) (hlo : JM P (fun s => evO s lo) st1 l st2) (hhi : JM P (fun s => evO s hi) st2 u st3) (hs : JM P (fun x => evO x s) st3 t st4)
    (hk : st4.heap[k]? = some (.list xs)) (pl : partI l = some l') (pu : partI u = some u') (pt : partI t = some t') (h0 : t' ≠ some 0) (hl : xs.length ≤ 1000) : E P (.slice a lo hi s) st (.ref st4.heap.length) { st4 with heap := st4.heap ++ [.list (pick xs l' u' t')] } := by
  refine JM.up (JM.bnd (k := fun x v => Mine.bnd (evO x lo) fun l => Mine.bnd (evO x hi) fun u => Mine.bnd (evO x s) fun t => Mine.bnd (look v) fun o => match o.2 with
    | .list xs => match partI l, partI u, partI t with
      | some l, some u, some t => if decide (t ≠ some 0) && lenOk xs then alloc (.list (pick xs l u t)) else no
      | _, _, _ => no
    | _ => no) h (JM.bnd hlo (JM.bnd hhi (JM.bnd hs (JM.bnd (JM.pure (look_ok hk)) (JM.pure ?_)))))) fun _ => rfl
  have hl2 : lenOk xs = true := decide_eq_true (Nat.le_trans hl (by decide))
  simp only [pl, pu, pt, decide_eq_true h0, hl2, Bool.and_self, if_true]
  rfl
theorem O.none {P : Prog} {st : St} : JM P (fun s => evO s none) st .none st := JM.rt _
theorem O.some {P : Prog} {st st' : St} {x : CE} {v : CV} (h : E P x st v st') : JM P (fun s => evO s (some x)) st v st' := h
end
end Pl
end Mine
end

section
namespace Mine
namespace L2
open Pl
noncomputable abbrev w0 : Str := ⟨#[79, 80, 84, 73, 77, 73, 90, 69, 68]⟩
noncomputable abbrev w1 : Str := ⟨#[78, 69, 87, 76, 79, 67, 65, 76, 83]⟩
noncomputable abbrev w2 : Str := ⟨#[86, 65, 82, 65, 82, 71, 83]⟩
noncomputable abbrev w3 : Str := ⟨#[86, 65, 82, 75, 69, 89, 87, 79, 82, 68, 83]⟩
noncomputable abbrev w4 : Str := ⟨#[78, 69, 83, 84, 69, 68]⟩
noncomputable abbrev w5 : Str := ⟨#[71, 69, 78, 69, 82, 65, 84, 79, 82]⟩
noncomputable abbrev w6 : Str := ⟨#[78, 79, 70, 82, 69, 69]⟩
noncomputable abbrev w7 : Str := ⟨#[67, 79, 82, 79, 85, 84, 73, 78, 69]⟩
noncomputable abbrev w8 : Str := ⟨#[73, 84, 69, 82, 65, 66, 76, 69, 95, 67, 79, 82, 79, 85, 84, 73, 78, 69]⟩
noncomputable abbrev w9 : Str := ⟨#[65, 83, 89, 78, 67, 95, 71, 69, 78, 69, 82, 65, 84, 79, 82]⟩
noncomputable def hNeeds : List CO := [.list [.str w0, .str w1, .str w2, .str w3, .str w4, .str w5, .str w6, .str w7, .str w8],
  .dictS [(w0, .ref 39), (w1, .ref 40), (w2, .ref 41), (w3, .ref 42), (w4, .ref 43), (w5, .ref 44), (w6, .ref 45), (w7, .ref 46), (w8, .ref 47)] 9,
  .list [.str w1, .str w3],
  .list [.str w2, .str w4],
  .list [.str w5],
  .list [.str w4, .str w6],
  .list [.str w5, .str w7],
  .list [.str w8],
  .list [.str w7],
  .list [.str w8],
  .list [],
  .tuple [.ref 37, .ref 38]]
noncomputable def hArgs : List CO := [.list [.str w0, .str w1, .str w2, .str w3, .str w4, .str w5, .str w6, .str w7, .str w8],
  .list [.str w1, .str w3],
  .list [.str w2, .str w4],
  .list [.str w5],
  .list [.str w4, .str w6],
  .list [.str w5, .str w7],
  .list [.str w8],
  .list [.str w7],
  .list [.str w8],
  .list [],
  .dictS [(w0, .ref 35), (w1, .ref 36), (w2, .ref 37), (w3, .ref 38), (w4, .ref 39), (w5, .ref 40), (w6, .ref 41), (w7, .ref 42), (w8, .ref 43)] 9]
noncomputable def hCour : List CO := [.inst 137 [(sN2i, .ref 46), (sRdy, .ref 74), (sPo, .int 0), (sNf, .int 0)],
  .dictS [(w0, .ref 48), (w1, .ref 50), (w3, .ref 52), (w2, .ref 55), (w4, .ref 57), (w5, .ref 60), (w6, .ref 63), (w7, .ref 66), (w8, .ref 69)] 9,
  .tuple [.str w1, .str w3],
  .slots 40 [some (.str w0), some (.int 2), some (.ref 49)],
  .list [],
  .slots 40 [some (.str w1), some (.int 2), some (.ref 51)],
  .list [.str w0],
  .slots 40 [some (.str w3), some (.int 2), some (.ref 53)],
  .list [.str w0],
  .tuple [.str w2, .str w4],
  .slots 40 [some (.str w2), some (.int 1), some (.ref 56)],
  .list [.str w1],
  .slots 40 [some (.str w4), some (.int 2), some (.ref 58)],
  .list [.str w1, .str w3],
  .tuple [.str w5],
  .slots 40 [some (.str w5), some (.int 1), some (.ref 61)],
  .list [.str w2, .str w4],
  .tuple [.str w4, .str w6],
  .slots 40 [some (.str w6), some (.int 1), some (.ref 64)],
  .list [.str w3],
  .tuple [.str w5, .str w7],
  .slots 40 [some (.str w7), some (.int 1), some (.ref 67)],
  .list [.str w4, .str w6],
  .tuple [.str w8],
  .slots 40 [some (.str w8), some (.int 0), some (.ref 70)],
  .list [.str w5, .str w7],
  .tuple [.str w7],
  .tuple [.str w8],
  .tuple [],
  .list [.str w8]]
theorem needs_ok (o1 o2 o3 : CO) (l : List (Option CV)) : (run prog 70).c 203 [] ⟨l, hp0 ++ [o1, o2, o3], 35, 60⟩ = some (.ref 48, ⟨l, hp0 ++ ([o1, o2, o3] ++ hNeeds), 35, 60⟩) := by kernel_rfl
theorem build_ok (code : Int) : (run prog 60).b (b__law_course.take 3) ⟨[some (.ref 34), some (.ref 44), some (.int code), none, none, none, none, none], hp0 ++ hArgs, 45, 59⟩ = some (.next, ⟨[some (.ref 34), some (.ref 44), some (.int code), some (.ref 45), some (.str w8), none, none, none], hp0 ++ (hArgs ++ hCour), 45, 59⟩) := by kernel_rfl
noncomputable def oNames : List Str := [w0, w1, w2, w3, w4, w5, w6, w7, w8]
noncomputable def oNs : List (Str × Nat × Nat) := [(w0, 48, 49), (w1, 50, 51), (w3, 52, 53), (w2, 55, 56), (w4, 57, 58), (w5, 60, 61), (w6, 63, 64), (w7, 66, 67), (w8, 69, 70)]
noncomputable def lkD {α : Type} (d : α) : List (Str × α) → Str → α
  | [], _ => d
  | (y, v) :: r, x => if y = x then v else lkD d r x
noncomputable def oNp : Str → Int := lkD 0 [(w0, 2), (w1, 2), (w3, 2), (w2, 1), (w4, 2), (w5, 1), (w6, 1), (w7, 1), (w8, 0)]
noncomputable def oSc : Str → List Str := lkD [] [(w0, []), (w1, [w0]), (w3, [w0]), (w2, [w1]), (w4, [w1, w3]), (w5, [w2, w4]), (w6, [w3]), (w7, [w4, w6]), (w8, [w5, w7])]
end L2
end Mine
end

section
namespace Mine
namespace L2
open Pl
theorem srtP : SrtP prog 40 137 := ⟨⟨cT, rfl, rfl⟩, ⟨cN, rfl, rfl, rfl⟩⟩
theorem srtM : SrtM prog 137 := ⟨⟨cT, 106, rfl, rfl, rfl⟩, ⟨cT, 99, rfl, rfl, rfl⟩, ⟨cT, 120, rfl, rfl, rfl⟩⟩
noncomputable def oAS : AS := ⟨oNp, [w8], 0, 0, [], []⟩
noncomputable def oWays : List (List Str) := (ways oNames oSc 10 oAS).getD []
theorem oWays_is : ways oNames oSc 10 oAS = some oWays := by
  have : (ways oNames oSc 10 oAS).isSome = true := by decide +kernel
  unfold oWays
  cases h : ways oNames oSc 10 oAS with
  | none => rw [h] at this; (first | exact nope this | refine rt_elim this ?_ | refine some_elim this ?_ | cases this)
  | some l => rfl
noncomputable abbrev oBody : List CS := [.aug 5 .Add (.prim .listOf [.callm (.var 3) mReady false [] none]),
    .assign (.var 7) (.bin .Mod (.var 2) (.prim .len [.var 5])),
    .assign (.var 2) (.bin .FloorDiv (.var 2) (.prim .len [.var 5])),
    .expr (.meth .append (.var 6) [.meth .popAt (.var 5) [.var 7]]),
    .expr (.callm (.var 3) mDone false [.sub (.var 6) (.neg (.const (.int 1)))] none)]
theorem oNs_names {y : Str} (h : y ∈ oNames) : y ∈ oNs.map (·.1) := by
  have : ∀ y ∈ oNames, y ∈ oNs.map (·.1) := by decide
  exact this y h
noncomputable abbrev oSt (code : Int) (v8 : Option CV) (H : List CO) : St := ⟨[some (.ref 34), some (.ref 44), some (.int code), some (.ref 45), some (.str w8), some (.ref 75), some (.ref 76), v8], H, 45, 59⟩
theorem atI_last {α : Type} (xs : List α) (v : α) : atI (xs ++ [v]) (-1) = some v := by
  unfold atI
  rw [if_neg (by decide), if_pos (by rw [List.length_append]; show 0 ≤ (-1 : Int) + ((xs.length + 1 : Nat) : Int); omega)]
  have : ((-1 : Int) + ((xs ++ [v]).length : Int)).toNat = xs.length := by rw [List.length_append]; show ((-1 : Int) + ((xs.length + 1 : Nat) : Int)).toNat = _; omega
  rw [this]; simp
theorem order_turn {a : AS} {code : Int} {H : List CO} {v8 : Option CV} (hc : 0 ≤ code) (R : Srt 40 137 H 45 45 46 74 9 oNs a.np oSc a.rd a.po a.nf) (hW : H[75]? = some (.list (a.wt.map .str))) (hO : H[76]? = some (.list (a.od.map .str)))
    (hrd : ∀ y ∈ a.rd, y ∈ oNames) (l1 : a.rd.length ≤ 100) (l2 : a.wt.length ≤ 100) (l3 : 0 < a.ready.wt.length) (l4 : a.od.length ≤ 100)
    (hx : ∀ (i : Nat) (x : Str), a.ready.wt[i]? = some x → a.ready.np x = -1 ∧ x ∈ oNames ∧ (∀ y ∈ oSc x, y ∈ oNames) ∧ (oSc x).length ≤ 100) :
    ∃ (i : Nat) (x : Str) (code' : Int) (H' : List CO) (v8' : Option CV), a.ready.wt[i]? = some x ∧ 0 ≤ code' ∧ B prog oBody (oSt code v8 H) .next (oSt code' v8' H') ∧
      Srt 40 137 H' 45 45 46 74 9 oNs (a.ready.fin oSc i x).np oSc (a.ready.fin oSc i x).rd (a.ready.fin oSc i x).po (a.ready.fin oSc i x).nf ∧ H'[75]? = some (.list ((a.ready.fin oSc i x).wt.map .str)) ∧ H'[76]? = some (.list ((a.ready.fin oSc i x).od.map .str)) := by
  have hku : ∀ k : Nat, 74 < k → ∀ x ∈ oNs, k ≠ x.2.2 := by
    intro k hk x hx e
    have : ∀ x ∈ oNs, x.2.2 ≤ 74 := by decide
    have := this x hx
    omega
  obtain ⟨H1, b1, hW1, R1, f1⟩ := wait_step (L := [some (.ref 34), some (.ref 44), some (.int code), some (.ref 45), some (.str w8), some (.ref 75), some (.ref 76), v8]) (dp := 59) (i := 3) (w := 5) (kw := 75) srtP srtM R (by omega) (by omega) (fun y hy => oNs_names (hrd y hy)) (by omega) rfl rfl hW (by omega) (hku 75 (by omega)) (by omega)
  have hO1 := f1 _ _ hO (by omega) (by omega) rfl
  have hwt : (a.wt ++ a.rd) = a.ready.wt := rfl
  have l5 : (a.wt ++ a.rd).length ≤ 200 := by rw [List.length_append]; omega
  rw [hwt] at hW1 l5
  generalize hwl : a.ready.wt = wt at *
  have hn0 : ((wt.length : Nat) : Int) ≠ 0 := by omega
  have hfm : 0 ≤ code.fmod (wt.length : Int) := Int.fmod_nonneg_of_pos _ (by omega)
  have hfl : code.fmod (wt.length : Int) < wt.length := Int.fmod_lt_of_pos _ (by omega)
  obtain ⟨i, hi⟩ : ∃ i : Nat, code.fmod (wt.length : Int) = i := ⟨(code.fmod (wt.length : Int)).toNat, (Int.toNat_of_nonneg hfm).symm⟩
  have hil : i < wt.length := by omega
  have hxi := List.getElem?_eq_getElem hil
  generalize wt[i] = x at hxi
  obtain ⟨x1, x2, x3, x4⟩ := hx i x hxi
  have hd0 : 0 ≤ code.fdiv (wt.length : Int) := Int.fdiv_nonneg hc (by omega)
  have hlen : ∀ {v8 : Option CV} {c : Int}, E prog (.prim .len [.var 5]) (oSt c v8 H1) (.int wt.length) (oSt c v8 H1) := fun {v8 c} => by
    have := E.prim (P := prog) (Es.one (E.var (i := 5) (v := .ref 75) (st := oSt c v8 H1) rfl)) (len_ok (by exact hW1) (by rw [List.length_map]; omega))
    rwa [List.length_map] at this
  have b2 : S prog (.assign (.var 7) (.bin .Mod (.var 2) (.prim .len [.var 5]))) (oSt code v8 H1) .next (oSt code (some (.int i)) H1) := by
    have e := E.bin (P := prog) (op := .Mod) (E.var (i := 2) (v := .int code) (st := oSt code v8 H1) rfl) hlen (mod_ok hn0)
    rw [hi] at e
    exact S.set e (by show 7 < 8; omega)
  have b3 : S prog (.assign (.var 2) (.bin .FloorDiv (.var 2) (.prim .len [.var 5]))) (oSt code (some (.int i)) H1) .next (oSt (code.fdiv (wt.length : Int)) (some (.int i)) H1) := by
    have e := E.bin (P := prog) (op := .FloorDiv) (E.var (i := 2) (v := .int code) (st := oSt code (some (.int i)) H1) rfl) hlen (fdiv_ok (y := (wt.length : Int)) (by
      rw [Bool.and_eq_true]
      exact ⟨decide_eq_true (by omega), decide_eq_true (by omega)⟩))
    exact S.set e (by show 2 < 8; omega)
  have hxm : (wt.map CV.str)[i]? = some (.str x) := by rw [List.getElem?_map, hxi]; rfl
  generalize code.fdiv (wt.length : Int) = code' at *
  have e5 : E prog (.meth .popAt (.var 5) [.var 7]) (oSt code' (some (.int i)) H1) (.str x) (oSt code' (some (.int i)) (H1.set 75 (.list ((wt.eraseIdx i).map .str)))) := by
    have hp := popAt_ok (j := (i : Int)) (st := oSt code' (some (.int i)) H1) (t := 75) hW1 (decide_eq_true (by omega)) (by rw [Int.toNat_natCast]; exact hxm) (by rw [List.length_map]; omega) (by show 45 ≤ 75; omega)
    rw [Int.toNat_natCast, show (wt.map CV.str).eraseIdx i = (wt.eraseIdx i).map CV.str from erase_map _ _ _] at hp
    refine E.meth (u := .ref 75) (un := ()) (vs := [.int i]) (E.var rfl) ?_ (Es.one (E.var rfl)) hp
    show Mine.bnd (look (.ref 75)) _ _ = _
    unfold Mine.bnd
    rw [look_ok (by exact hW1)]; rfl
  have hO2 : (H1.set 75 (.list ((wt.eraseIdx i).map .str)))[76]? = some (.list (a.od.map .str)) := by rw [get_ne (by omega)]; exact hO1
  have R2 := R1.other (o' := .list ((wt.eraseIdx i).map .str)) hW1 ⟨_, rfl⟩ (by omega) (hku 75 (by omega))
  have R3 := R2.other (o' := .list (a.od.map CV.str ++ [.str x])) hO2 ⟨_, rfl⟩ (by omega) (hku 76 (by omega))
  have b4 : S prog (.expr (.meth .append (.var 6) [.meth .popAt (.var 5) [.var 7]])) (oSt code' (some (.int i)) H1) .next (oSt code' (some (.int i)) ((H1.set 75 (.list ((wt.eraseIdx i).map .str))).set 76 (.list (a.od.map CV.str ++ [.str x])))) := by
    refine S.expr (v := .none) (E.meth (u := .ref 76) (un := ()) (E.var rfl) ?_ (Es.one e5) (app_ok hO2 (by rw [List.length_map]; omega) (by show 45 ≤ 76; omega)))
    show Mine.bnd (look (.ref 76)) _ _ = _
    unfold Mine.bnd
    rw [look_ok (by exact hO1)]; rfl
  have hO3 : ((H1.set 75 (.list ((wt.eraseIdx i).map .str))).set 76 (.list (a.od.map CV.str ++ [.str x])))[76]? = some (.list (a.od.map CV.str ++ [.str x])) := get_set hO2
  have hW3 : ((H1.set 75 (.list ((wt.eraseIdx i).map .str))).set 76 (.list (a.od.map CV.str ++ [.str x])))[75]? = some (.list ((wt.eraseIdx i).map .str)) := by rw [get_ne (by omega)]; exact get_set hW1
  generalize ((H1.set 75 (.list ((wt.eraseIdx i).map .str))).set 76 (.list (a.od.map CV.str ++ [.str x]))) = H3 at *
  have e6 : E prog (.sub (.var 6) (.neg (.const (.int 1)))) (oSt code' (some (.int i)) H3) (.str x) (oSt code' (some (.int i)) H3) :=
    E.sub (u := .ref 76) (v := .int (-1)) (E.var rfl) (E.neg E.const) (sub_listI (by exact hO3) (by
      rw [show lenOk (a.od.map CV.str ++ [.str x]) = true from decide_eq_true (by rw [List.length_append, List.length_map]; show a.od.length + 1 ≤ _; omega)]; rfl) (atI_last _ _))
  obtain ⟨z, hz, hzx⟩ := names_at (oNs_names x2)
  subst hzx
  obtain ⟨H4, e7, R4, f4⟩ := done_call (i := 3) srtP srtM R3 hz x1 (fun y hy => oNs_names (x3 y hy)) (by show 0 + _ ≤ _; omega) (by omega) (E.var rfl) R3.hs e6
  refine ⟨i, z.1, code', H4, some (.int i), hxi, hd0, B.cons b1 (B.cons b2 (B.cons b3 (B.cons b4 (B.cons (S.expr e7) B.nil)))), R4, ?_, ?_⟩
  · have : (a.ready.fin oSc i z.1).wt = wt.eraseIdx i := by rw [← hwl]; rfl
    rw [this]
    exact f4.at_ _ _ hW3 (by omega) rfl
  · have : ((a.ready.fin oSc i z.1).od).map CV.str = a.od.map CV.str ++ [.str z.1] := by
      show (a.od ++ [z.1]).map CV.str = _
      rw [List.map_append]; rfl
    rw [this]
    exact f4.at_ _ _ hO3 (by omega) rfl
theorem order_loop : ∀ (n : Nat) (a : AS) (l : List (List Str)) (code : Int) (H : List CO) (v8 : Option CV), ways oNames oSc n a = some l → 0 ≤ code → Srt 40 137 H 45 45 46 74 9 oNs a.np oSc a.rd a.po a.nf → H[75]? = some (.list (a.wt.map .str)) → H[76]? = some (.list (a.od.map .str)) → a.rd.length ≤ 1000000 →
    ∃ o ∈ l, ∃ code' v8' H', Wh prog (.callm (.var 3) mActive false [] none) oBody [] (oSt code v8 H) .next (oSt code' v8' H') ∧ H'[76]? = some (.list (o.map .str)) := by
  intro n
  induction n with
  | zero => intro a l code H v8 h; (first | exact nope h | refine rt_elim h ?_ | refine some_elim h ?_ | cases h)
  | succ n ih =>
    intro a l code H v8 h hc R hW hO hl
    have ea := active_call (dp := 59) (L := [some (.ref 34), some (.ref 44), some (.int code), some (.ref 45), some (.str w8), some (.ref 75), some (.ref 76), v8]) (i := 3) srtP srtM R hl (by omega) rfl
    by_cases ha : (decide (a.nf < a.po) || !a.rd.isEmpty) = true
    · obtain ⟨g1, g2, g3, g4, g5, g6⟩ := ways_step h ha
      obtain ⟨i, x, code', H', v8', k1, k2, k3, R', k5, k6⟩ := order_turn (v8 := v8) hc R hW hO g1 g2 g3 g4 g5 (fun i x hx => let ⟨q1, q2, q3, q4, _⟩ := g6 i x hx; ⟨q1, q2, q3, q4⟩)
      obtain ⟨q1, q2, q3, q4, l', w1, w2⟩ := g6 i x k1
      have hrl : (a.ready.fin oSc i x).rd.length ≤ 1000000 := by
        have := len_done (upd a.ready.np x (-2)) (oSc x) a.ready.rd
        show (doneS (upd a.ready.np x (-2)) a.ready.rd (oSc x)).2.length ≤ _
        have h0 : a.ready.rd.length = 0 := rfl
        omega
      obtain ⟨o, ho, c2, v2, H2, t1, t2⟩ := ih _ l' code' H' v8' w1 k2 R' k5 k6 hrl
      rw [ha] at ea
      exact ⟨o, w2 o ho, c2, v2, H2, W.turn (T.bool ea) k3 (.inl rfl) t1, t2⟩
    · have ha : (decide (a.nf < a.po) || !a.rd.isEmpty) = false := Bool.eq_false_iff.mpr ha
      rw [ha] at ea
      exact ⟨a.od, ways_stop h ha, code, v8, H, W.done (T.bool ea) B.nil, hO⟩
theorem oR : Srt 40 137 (hp0 ++ (hArgs ++ hCour)) 45 45 46 74 9 oNs oNp oSc [w8] 0 0 :=
  ⟨rfl, by kernel_rfl, rfl, by decide +kernel, by decide +kernel, by decide +kernel, by decide +kernel, by omega, by omega, by decide +kernel⟩
theorem course_ok {code : Int} (hc : 0 ≤ code) : ∃ o ∈ oWays, ∃ st', C prog 210 [.ref 34, .ref 44, .int code] (T1 hArgs 60) (.ref 76) st' ∧ st'.heap[76]? = some (.list (o.map .str)) := by
  have R1 := ((oR.push (.list [])).push (.list [])).push (.tuple [.ref 75, .ref 76])
  obtain ⟨o, ho, c', v8, H', hw, h75⟩ := order_loop 10 oAS oWays code (((hp0 ++ (hArgs ++ hCour)) ++ [.list []]) ++ [.list []] ++ [.tuple [.ref 75, .ref 76]]) none oWays_is hc R1 rfl rfl (by decide)
  refine ⟨o, ho, _, C.ret2 f__law_course (L2 := (oSt c' v8 H').loc) (H' := H') (lo2 := 45) (dp2 := 59) rfl rfl ?_, h75⟩
  refine B.cut (x := b__law_course.take 3) (y := b__law_course.drop 3) (B.of (build_ok code)) ?_
  refine B.cons (st1 := oSt code none (((hp0 ++ (hArgs ++ hCour)) ++ [.list []]) ++ [.list []] ++ [.tuple [.ref 75, .ref 76]])) (S.assign (u := ()) (E.tuple (Es.cons (E.list Es.nil rfl) (Es.cons (E.list Es.nil rfl) Es.nil)) rfl) (JM.pure rfl)) ?_
  exact B.cons (S.while hw) (B.stop (S.ret (E.var rfl)) (fun e => nomatch e))
end L2
end Mine
end

section
namespace Mine
namespace L2
open Pl
noncomputable def ndE : List (Str × CV) := [(w0, .ref 34), (w1, .ref 35), (w2, .ref 36), (w3, .ref 37), (w4, .ref 38), (w5, .ref 39), (w6, .ref 40), (w7, .ref 41), (w8, .ref 42)]
noncomputable def hNd : List CO := [.list [.str w1, .str w3], .list [.str w2, .str w4], .list [.str w5], .list [.str w4, .str w6], .list [.str w5, .str w7], .list [.str w8], .list [.str w7], .list [.str w8], .list [], .dictS ndE 9]
noncomputable def needsOf : Str → List Str := lkD [] [(w0, [w1, w3]), (w1, [w2, w4]), (w2, [w5]), (w3, [w4, w6]), (w4, [w5, w7]), (w5, [w8]), (w6, [w7]), (w7, [w8]), (w8, [])]

noncomputable def ix (x : Str) : Nat := (idxOf oNames x).getD 0
theorem nd_at : ∀ x ∈ oNames, lkS ndE x = some (.ref (34 + ix x)) ∧ hNd[ix x]? = some (.list ((needsOf x).map .str)) ∧ ix x < 9 := by decide +kernel
noncomputable def slide1 (row : List Str) (k : Int) : List Str :=
  if row[k.toNat]?.getD w0 ∈ needsOf (row[k.toNat + 1]?.getD w0) then row else (row.set k.toNat (row[k.toNat + 1]?.getD w0)).set (k.toNat + 1) (row[k.toNat]?.getD w0)
noncomputable def slidS (o : List Str) : List Str := ([8, 7, 6, 5, 4, 3, 2, 1] : List Int).foldl (fun row last => (rangeL 0 last 1).foldl slide1 row) o
noncomputable abbrev slSt (v3 v4 v5 v6 : Option CV) (H : List CO) : St := ⟨[some (.ref 43), some (.ref 44), some (.ref 45), v3, v4, v5, v6], H, 45, 59⟩
structure SlH (H : List CO) (row : List Str) : Prop where
  nd : H[43]? = some (.dictS ndE 9)
  ls : ∀ x ∈ oNames, H[34 + ix x]? = some (.list ((needsOf x).map .str))
  rws : H[45]? = some (.list (row.map .str))
  len : row.length = 9
  nm : ∀ y ∈ row, y ∈ oNames
theorem SlH.push {H : List CO} {row : List Str} (h : SlH H row) (o : CO) : SlH (H ++ [o]) row := ⟨get_push h.nd, fun x hx => get_push (h.ls x hx), get_push h.rws, h.len, h.nm⟩
theorem SlH.set {H : List CO} {row row' : List Str} (h : SlH H row) (hl : row'.length = 9) (hn : ∀ y ∈ row', y ∈ oNames) : SlH (H.set 45 (.list (row'.map .str))) row' :=
  ⟨by rw [get_ne (by omega)]; exact h.nd, fun x hx => by rw [get_ne (by have := (nd_at x hx).2.2; omega)]; exact h.ls x hx, get_set h.rws, hl, hn⟩
noncomputable abbrev slBody : List CS := [.assign (.vars [5, 6]) (.tuple [.sub (.var 2) (.var 4), .sub (.var 2) (.bin .Add (.var 4) (.const (.int 1)))]),
    .ite (.cmp .NotIn (.var 5) (.sub (.var 0) (.var 6))) [.assign (.subs (.var 2) (.var 4) (.var 2) (.bin .Add (.var 4) (.const (.int 1)))) (.tuple [.var 6, .var 5])] []]
theorem row_at {row : List Str} (hl : row.length = 9) {i : Nat} (hi : i < 9) : row[i]? = some (row[i]?.getD w0) := by
  rw [List.getElem?_eq_getElem (by omega)]; rfl
theorem sl_turn {H : List CO} {row : List Str} {i : Nat} (hi : i < 8) (h : SlH H row) {v3 v5 v6 : Option CV} : ∃ v5' v6' H', B prog slBody (slSt v3 (some (.int i)) v5 v6 H) .next (slSt v3 (some (.int i)) v5' v6' H') ∧ SlH H' (slide1 row i) := by
  have hx := row_at h.len (show i < 9 by omega)
  have hy := row_at h.len (show i + 1 < 9 by omega)
  have e0 : slide1 row (i : Int) = if row[i]?.getD w0 ∈ needsOf (row[i + 1]?.getD w0) then row else (row.set i (row[i + 1]?.getD w0)).set (i + 1) (row[i]?.getD w0) := by
    unfold slide1; rw [Int.toNat_natCast]
  rw [e0]
  generalize row[i]?.getD w0 = x at *
  generalize row[i + 1]?.getD w0 = y at *
  have hxm := h.nm x (List.mem_of_getElem? hx)
  have hym := h.nm y (List.mem_of_getElem? hy)
  have hx' : (row.map CV.str)[i]? = some (.str x) := by rw [List.getElem?_map, hx]; rfl
  have hy' : (row.map CV.str)[i + 1]? = some (.str y) := by rw [List.getElem?_map, hy]; rfl
  have hl' : (row.map CV.str).length ≤ 1000 := by rw [List.length_map, h.len]; omega
  have ei : ∀ {v3 v5 v6 : Option CV} {H : List CO}, E prog (.bin .Add (.var 4) (.const (.int 1))) (slSt v3 (some (.int i)) v5 v6 H) (.int ((i + 1 : Nat) : Int)) (slSt v3 (some (.int i)) v5 v6 H) := fun {_ _ _ _} => E.bin (E.var rfl) E.const (by rw [Int.natCast_add]; rfl)
  have e1 : E prog (.sub (.var 2) (.var 4)) (slSt v3 (some (.int i)) v5 v6 H) (.str x) (slSt v3 (some (.int i)) v5 v6 H) := E.sub (u := .ref 45) (v := .int i) (E.var rfl) (E.var rfl) (sub_at (by exact h.rws) hx' hl')
  have e2 : E prog (.sub (.var 2) (.bin .Add (.var 4) (.const (.int 1)))) (slSt v3 (some (.int i)) v5 v6 H) (.str y) (slSt v3 (some (.int i)) v5 v6 H) := E.sub (u := .ref 45) (E.var rfl) ei (sub_at (by exact h.rws) hy' hl')
  have h1 := h.push (.tuple [.str x, .str y])
  have b1 : S prog (.assign (.vars [5, 6]) (.tuple [.sub (.var 2) (.var 4), .sub (.var 2) (.bin .Add (.var 4) (.const (.int 1)))])) (slSt v3 (some (.int i)) v5 v6 H) .next (slSt v3 (some (.int i)) (some (.str x)) (some (.str y)) (H ++ [.tuple [.str x, .str y]])) := by
    refine S.assign (u := ()) (E.tuple (Es.cons e1 (Es.cons e2 Es.nil)) rfl) (JM.pure ?_)
    show guardD _ _ = _
    unfold guardD
    rw [if_neg (by show ¬ 59 = 0; omega)]
    unfold Mine.bnd
    rw [look_ok (o := .tuple [.str x, .str y]) get_end]
    rfl
  have e3 : E prog (.cmp .NotIn (.var 5) (.sub (.var 0) (.var 6))) (slSt v3 (some (.int i)) (some (.str x)) (some (.str y)) (H ++ [.tuple [.str x, .str y]])) (.bool (!decide (x ∈ needsOf y))) (slSt v3 (some (.int i)) (some (.str x)) (some (.str y)) (H ++ [.tuple [.str x, .str y]])) :=
    E.cmp (E.var rfl) (E.sub (u := .ref 43) (v := .str y) (E.var rfl) (E.var rfl) (sub_dict (by exact h1.nd) (nd_at y hym).1)) (notin_list (by exact h1.ls y hym))
  by_cases hc : x ∈ needsOf y
  · rw [if_pos hc]
    rw [decide_eq_true hc] at e3
    exact ⟨_, _, _, B.cons b1 (B.cons (S.ff (T.bool e3) B.nil) B.nil), h1⟩
  · rw [if_neg hc]
    rw [decide_eq_false hc] at e3
    have h2 := h1.push (.tuple [.str y, .str x])
    have hr1 : (row.set i y).length = 9 := by rw [List.length_set]; exact h.len
    have hr2 : ((row.set i y).set (i + 1) x).length = 9 := by rw [List.length_set]; exact hr1
    have hn1 : ∀ z ∈ row.set i y, z ∈ oNames := fun z hz => by
      rcases List.mem_or_eq_of_mem_set hz with q | rfl
      · exact h.nm z q
      · exact hym
    have hn2 : ∀ z ∈ (row.set i y).set (i + 1) x, z ∈ oNames := fun z hz => by
      rcases List.mem_or_eq_of_mem_set hz with q | rfl
      · exact hn1 z q
      · exact hxm
    have h3 := h2.set hr1 hn1
    have h4 := h3.set hr2 hn2
    have s1 := setV_ok (st := slSt v3 (some (.int i)) (some (.str x)) (some (.str y)) (H ++ [CO.tuple [.str x, .str y]] ++ [CO.tuple [.str y, .str x]])) (t := 45) (i := i) (v := .str y) h2.rws (by rw [List.length_map, h.len]; omega) hl' (by show 45 ≤ 45; omega)
    rw [← List.map_set] at s1
    have s2 := setV_ok (st := slSt v3 (some (.int i)) (some (.str x)) (some (.str y)) ((H ++ [CO.tuple [.str x, .str y]] ++ [CO.tuple [.str y, .str x]]).set 45 (.list ((row.set i y).map .str)))) (t := 45) (i := i + 1) (v := .str x) h3.rws (by rw [List.length_map, hr1]; omega) (by rw [List.length_map, hr1]; omega) (by show 45 ≤ 45; omega)
    rw [← List.map_set] at s2
    have hj : JM prog (fun s => Mine.bnd (s.e (.var 2)) fun w => Mine.bnd (s.e (.var 4)) fun i => Mine.bnd (setV w i (.str y)) fun _ => Mine.bnd (s.e (.var 2)) fun w' => Mine.bnd (s.e (.bin .Add (.var 4) (.const (.int 1)))) fun i' => setV w' i' (.str x))
        (slSt v3 (some (.int i)) (some (.str x)) (some (.str y)) (H ++ [CO.tuple [.str x, .str y]] ++ [CO.tuple [.str y, .str x]])) () (slSt v3 (some (.int i)) (some (.str x)) (some (.str y)) (((H ++ [CO.tuple [.str x, .str y]] ++ [CO.tuple [.str y, .str x]]).set 45 (.list ((row.set i y).map .str))).set 45 (.list (((row.set i y).set (i + 1) x).map .str)))) :=
      JM.bnd (k := fun s w => Mine.bnd (s.e (.var 4)) fun i => Mine.bnd (setV w i (.str y)) fun _ => Mine.bnd (s.e (.var 2)) fun w' => Mine.bnd (s.e (.bin .Add (.var 4) (.const (.int 1)))) fun i' => setV w' i' (.str x)) (E.var (v := .ref 45) rfl)
        (JM.bnd (k := fun s i => Mine.bnd (setV (.ref 45) i (.str y)) fun _ => Mine.bnd (s.e (.var 2)) fun w' => Mine.bnd (s.e (.bin .Add (.var 4) (.const (.int 1)))) fun i' => setV w' i' (.str x)) (E.var (v := .int i) rfl)
          (JM.bnd (k := fun s _ => Mine.bnd (s.e (.var 2)) fun w' => Mine.bnd (s.e (.bin .Add (.var 4) (.const (.int 1)))) fun i' => setV w' i' (.str x)) (JM.pure s1)
            (JM.bnd (k := fun s w' => Mine.bnd (s.e (.bin .Add (.var 4) (.const (.int 1)))) fun i' => setV w' i' (.str x)) (E.var (v := .ref 45) rfl)
              (JM.bnd (k := fun _ i' => setV (.ref 45) i' (.str x)) ei (JM.pure s2)))))
    refine ⟨some (.str x), some (.str y), _, B.cons b1 (B.cons (S.tt (T.bool e3) (B.cons (S.assign (u := ()) (E.tuple (Es.cons (E.var (v := .str y) rfl) (Es.cons (E.var (v := .str x) rfl) Es.nil)) rfl) ?_) B.nil)) B.nil), h4⟩
    exact JM.guard (by show 59 ≠ 0; omega) (JM.bnd (a := ((H ++ [CO.tuple [.str x, .str y]]).length, CO.tuple [.str y, .str x])) (c := fun _ => look (.ref (H ++ [CO.tuple [.str x, .str y]]).length)) (k := fun s o => match o.2 with
      | .tuple [x, y] => Mine.bnd (s.e (.var 2)) fun w => Mine.bnd (s.e (.var 4)) fun i => Mine.bnd (setV w i x) fun _ => Mine.bnd (s.e (.var 2)) fun w' => Mine.bnd (s.e (.bin .Add (.var 4) (.const (.int 1)))) fun i' => setV w' i' y
      | _ => no) (JM.pure (look_ok get_end)) hj)
theorem rng_bound : ∀ last ∈ ([8, 7, 6, 5, 4, 3, 2, 1] : List Int), rOk 0 last 1 = true ∧ ∀ k ∈ rangeL 0 last 1, 0 ≤ k ∧ k < 8 := by decide +kernel
theorem slid_ok {o : List Str} (hl : o.length = 9) (hn : ∀ y ∈ o, y ∈ oNames) : ∃ st', C prog 217 [.ref 43, .ref 44] (T1 (hNd ++ [.list (o.map .str)]) 60) (.ref 45) st' ∧ st'.heap[45]? = some (.list ((slidS o).map .str)) := by
  have h0 : SlH (hp0 ++ (hNd ++ [.list (o.map .str)]) ++ [.list (o.map .str)]) o := by
    refine ⟨rfl, fun x hx => ?_, rfl, hl, hn⟩
    obtain ⟨_, q1, q2⟩ := nd_at x hx
    have : ∀ j : Nat, j < 9 → (hp0 ++ (hNd ++ [CO.list (o.map .str)]) ++ [CO.list (o.map .str)])[34 + j]? = hNd[j]? := by
      intro j hj
      match j, hj with
      | 0, _ => rfl
      | 1, _ => rfl
      | 2, _ => rfl
      | 3, _ => rfl
      | 4, _ => rfl
      | 5, _ => rfl
      | 6, _ => rfl
      | 7, _ => rfl
      | 8, _ => rfl
    rw [this _ q2]; exact q1
  obtain ⟨st', k1, v3, v4, v5, v6, H', e', hH⟩ := for_rng (P := prog) (t := .var 3) (body := [.for (.var 4) (.range [.var 3]) slBody []]) (fun row last => (rangeL 0 last 1).foldl slide1 row)
    (fun row st => ∃ v3 v4 v5 v6 H, st = slSt v3 v4 v5 v6 H ∧ SlH H row) (fun a st ⟨_, _, _, _, _, e, _⟩ => by subst e; show 59 ≠ 0; omega) [8, 7, 6, 5, 4, 3, 2, 1]
    (fun row last st hlast ⟨v3, v4, v5, v6, H, e, hH⟩ => by
      subst e
      obtain ⟨r1, r2⟩ := rng_bound last hlast
      obtain ⟨st2, k1, w4, w5, w6, H2, e2, hH2⟩ := for_rng (P := prog) (t := .var 4) (body := slBody) slide1 (fun row st => ∃ v4 v5 v6 H, st = slSt (some (.int last)) v4 v5 v6 H ∧ SlH H row) (fun a st ⟨_, _, _, _, e, _⟩ => by subst e; show 59 ≠ 0; omega) (rangeL 0 last 1)
        (fun row k st hk ⟨v4, v5, v6, H, e, hH⟩ => by
          subst e
          obtain ⟨b1, b2⟩ := r2 k hk
          obtain ⟨i, rfl⟩ : ∃ i : Nat, k = i := ⟨k.toNat, (Int.toNat_of_nonneg b1).symm⟩
          obtain ⟨u5, u6, H', q1, q2⟩ := sl_turn (v3 := some (.int last)) (v5 := v5) (v6 := v6) (show i < 8 by omega) hH
          exact ⟨(), _, _, rfl, q1, _, _, _, _, rfl, q2⟩)
        row (slSt (some (.int last)) v4 v5 v6 H) ⟨_, _, _, _, rfl, hH⟩
      exact ⟨(), slSt (some (.int last)) v4 v5 v6 H, st2, rfl, B.cons (S.loop (I.range1 (E.var rfl) r1) k1) B.nil, _, _, _, _, _, e2, hH2⟩)
    o (slSt none none none none (hp0 ++ (hNd ++ [.list (o.map .str)]) ++ [.list (o.map .str)])) ⟨_, _, _, _, _, rfl, h0⟩
  subst e'
  refine ⟨_, C.ret2 f__law_slid (L2 := (slSt v3 v4 v5 v6 H').loc) (H' := H') (lo2 := 45) (dp2 := 59) rfl rfl ?_, hH.rws⟩
  have e1 := slice_ok (P := prog) (a := .var 1) (lo := none) (hi := none) (s := none) (l := .none) (u := .none) (t := .none) (l' := none) (u' := none) (t' := none) (xs := o.map .str) (k := 44) (st := ⟨[some (.ref 43), some (.ref 44), none, none, none, none, none], hp0 ++ (hNd ++ [.list (o.map .str)]), 45, 59⟩) (st1 := ⟨[some (.ref 43), some (.ref 44), none, none, none, none, none], hp0 ++ (hNd ++ [.list (o.map .str)]), 45, 59⟩) (st2 := ⟨[some (.ref 43), some (.ref 44), none, none, none, none, none], hp0 ++ (hNd ++ [.list (o.map .str)]), 45, 59⟩) (st3 := ⟨[some (.ref 43), some (.ref 44), none, none, none, none, none], hp0 ++ (hNd ++ [.list (o.map .str)]), 45, 59⟩) (st4 := ⟨[some (.ref 43), some (.ref 44), none, none, none, none, none], hp0 ++ (hNd ++ [.list (o.map .str)]), 45, 59⟩)
    (E.var rfl) O.none O.none O.none rfl rfl rfl rfl (by simp) (by rw [List.length_map]; omega)
  rw [pick_all (by rw [List.length_map]; exact hl)] at e1
  refine B.cons (S.set (i := 2) e1 (by show 2 < 7; omega)) (B.cons (S.loop (i := .rng [8, 7, 6, 5, 4, 3, 2, 1]) (st1 := slSt none none none none (hp0 ++ (hNd ++ [.list (o.map .str)]) ++ [.list (o.map .str)])) (I.of (n := 4) (by kernel_rfl)) k1) (B.stop (S.ret (E.var rfl)) (fun e => nomatch e)))
end L2
end Mine
end

section
namespace Mine
namespace Pl
section
variable {P : Prog} {st st1 st2 : St}
theorem for_cnt {t : CT} {body : List CS} (Inv : Nat → St → Prop) (hd : ∀ g st, Inv g st → st.dep ≠ 0) {m : Nat} (turn : ∀ g st, g < m → Inv g st → ∃ u st1 st2, asgI t (.one (.int (g : Nat))) st = some (u, st1) ∧ B P body st1 .next st2 ∧ Inv (g + 1) st2) :
    ∀ n g st, g + n = m → Inv g st → ∃ st', Fo P (.rng ((List.range' g n).map fun (i : Nat) => (i : Int))) t body [] st .next st' ∧ Inv m st' := by
  intro n
  induction n with
  | zero => intro g st hg h; exact ⟨st, F.done (nx_rng0 (hd g st h)) B.nil, by rw [Nat.add_zero] at hg; subst hg; exact h⟩
  | succ n ih =>
    intro g st hg h
    obtain ⟨u, s1, s2, g1, g2, g3⟩ := turn g st (by omega) h
    obtain ⟨st', k1, k2⟩ := ih (g + 1) s2 (by omega) g3
    exact ⟨st', F.turn (nx_rng (hd g st h)) g1 g2 (.inl rfl) k1, k2⟩
theorem call1s (hT : P.top = 34) {f : Addr} {x : CE} {i : Str} {v : CV} {R : List CO} (hH : st.heap = hp0 ++ R) (he : E P x st (.str i) st) (h : C P f [.str i] (T1 [] st.dep) v st2) (hv : isV v = true) : E P (.callf f true [x]) st v st := by
  refine E.callv (P := P) (Es.one he) (args' := [.str i]) (hs := []) (ks := []) ?_ ?_ (by
    have : st.heap.take P.top ++ [] = hp0 := by rw [hH, hT]; rfl
    rw [this, hT]; exact h) hv
  · rw [hH, hT]; rfl
  · rfl
end
end Pl
namespace L2
open Pl
noncomputable def rowsL : Int → List Str → List Int
  | m, [] => [m]
  | m, x :: r => m :: rowsL (m + 2 ^ ix x) r
noncomputable def modeL (m : Int) (xs : List Str) : Int := xs.foldl (fun m x => m + 2 ^ ix x) m
theorem rowsL_snoc (x : Str) : ∀ (xs : List Str) (m : Int), rowsL m (xs ++ [x]) = rowsL m xs ++ [modeL m (xs ++ [x])]
  | [], m => rfl
  | y :: r, m => by
    show m :: rowsL (m + 2 ^ ix y) (r ++ [x]) = m :: (rowsL (m + 2 ^ ix y) r ++ [modeL (m + 2 ^ ix y) (r ++ [x])])
    rw [rowsL_snoc x r]
theorem rowsL_len : ∀ (xs : List Str) (m : Int), (rowsL m xs).length = xs.length + 1
  | [], _ => rfl
  | x :: r, m => by show (rowsL _ r).length + 1 = _; rw [rowsL_len r]; rfl
noncomputable def listing (ms : List Int) : List CV := ms.map fun m => .str (fmS m)
noncomputable abbrev rSt (o : List Str) (m : Int) (rows : List CV) (nm : Option CV) : St := ⟨[some (.ref 34), some (.ref 35), some (.int m), some (.ref 36), nm], hp0 ++ [.list (oNames.map .str), .list (o.map .str), .list rows], 36, 59⟩
theorem fm_call {o : List Str} {m : Int} {rows : List CV} {nm : Option CV} : E prog (.callf 196 true [.var 2]) (rSt o m rows nm) (.str (fmS m)) (rSt o m rows nm) :=
  call1 (P := prog) rfl (R := [.list (oNames.map .str), .list (o.map .str), .list rows]) rfl (E.var rfl) (filemode_ok (SI := 156) rfl rfl rfl (by show 1 < 59; omega)) rfl
theorem rows_ok {o : List Str} (hl : o.length = 9) (hn : ∀ y ∈ o, y ∈ oNames) (mode : Int) : ∃ st', C prog 224 [.ref 34, .ref 35, .int mode] (T1 [.list (oNames.map .str), .list (o.map .str)] 60) (.ref 36) st' ∧ st'.heap[36]? = some (.list (listing (rowsL mode o))) := by
  obtain ⟨st', k1, nm, e⟩ := for_seq (P := prog) (b := false) (k := 35) (xs := o.map CV.str) (t := .var 4) (body := [.aug 2 .Add (.bin .LShift (.const (.int 1)) (.meth .index (.var 0) [.var 4])), .expr (.meth .append (.var 3) [.callf 196 true [.var 2]])])
    (fun i st => ∃ nm, st = rSt o (modeL mode (o.take i)) (listing (rowsL mode (o.take i))) nm) (fun i st ⟨nm, e⟩ => by subst e; exact ⟨rfl, by show 59 ≠ 0; omega⟩)
    (fun i v st hv ⟨nm, e⟩ => by
      subst e
      rw [List.getElem?_map] at hv
      obtain ⟨x, hx, rfl⟩ := Option.map_eq_some_iff.mp hv
      have hxm := hn x (List.mem_of_getElem? hx)
      have ht : o.take (i + 1) = o.take i ++ [x] := by rw [List.take_add_one, hx]; rfl
      have hix : ix x ≤ 60 := by have := (nd_at x hxm).2.2; omega
      have e1 : E prog (.meth .index (.var 0) [.var 4]) (rSt o (modeL mode (o.take i)) (listing (rowsL mode (o.take i))) (some (.str x))) (.int ((ix x : Nat) : Int)) (rSt o (modeL mode (o.take i)) (listing (rowsL mode (o.take i))) (some (.str x))) := by
        refine E.meth (u := .ref 34) (un := ()) (vs := [.str x]) (E.var rfl) rfl (Es.one (E.var rfl)) (index_ok (names := oNames) rfl hxm (by decide))
      have b1 : S prog (.aug 2 .Add (.bin .LShift (.const (.int 1)) (.meth .index (.var 0) [.var 4]))) (rSt o (modeL mode (o.take i)) (listing (rowsL mode (o.take i))) (some (.str x))) .next (rSt o (modeL mode (o.take (i + 1))) (listing (rowsL mode (o.take i))) (some (.str x))) := by
        have hm : modeL mode (o.take (i + 1)) = modeL mode (o.take i) + 2 ^ ix x := by rw [ht]; unfold modeL; rw [List.foldl_append]; rfl
        rw [hm]
        exact S.aug (op := .Add) (st3 := rSt o (modeL mode (o.take i)) (listing (rowsL mode (o.take i))) (some (.str x))) (old := .int (modeL mode (o.take i))) (z := .int (modeL mode (o.take i) + 2 ^ ix x)) rfl (E.bin E.const e1 (shl_ok hix)) rfl (by show 2 < 5; omega)
      have b2 := S.app (P := prog) (o := .var 3) (k := 36) (st := rSt o (modeL mode (o.take (i + 1))) (listing (rowsL mode (o.take i))) (some (.str x))) (E.var rfl) fm_call rfl (by unfold listing; rw [List.length_map, rowsL_len, List.length_take]; omega) (by show 36 ≤ 36; omega)
      have hr : listing (rowsL mode (o.take i)) ++ [.str (fmS (modeL mode (o.take (i + 1))))] = listing (rowsL mode (o.take (i + 1))) := by
        rw [ht, rowsL_snoc]
        unfold listing
        rw [List.map_append]; rfl
      rw [hr] at b2
      exact ⟨(), _, _, .next, rfl, B.cons b1 (B.cons b2 B.nil), .inl rfl, some (.str x), rfl⟩)
    (o.map CV.str).length 0 (rSt o mode (listing [mode]) none) (by omega) ⟨none, rfl⟩
  subst e
  rw [List.length_map, List.take_length] at k1
  refine ⟨_, C.ret2 f__law_rows (L2 := (rSt o (modeL mode o) (listing (rowsL mode o)) nm).loc) (H' := hp0 ++ [.list (oNames.map .str), .list (o.map .str), .list (listing (rowsL mode o))]) (lo2 := 36) (dp2 := 59) rfl rfl ?_, rfl⟩
  have e0 : E prog (.callf 196 true [.var 2]) ⟨[some (.ref 34), some (.ref 35), some (.int mode), none, none], hp0 ++ [.list (oNames.map .str), .list (o.map .str)], 36, 59⟩ (.str (fmS mode)) ⟨[some (.ref 34), some (.ref 35), some (.int mode), none, none], hp0 ++ [.list (oNames.map .str), .list (o.map .str)], 36, 59⟩ :=
    call1 (P := prog) rfl (R := [.list (oNames.map .str), .list (o.map .str)]) rfl (E.var rfl) (filemode_ok (SI := 156) rfl rfl rfl (by show 1 < 59; omega)) rfl
  exact B.cons (S.set (i := 3) (E.list (Es.one e0) rfl) (by show 3 < 5; omega)) (B.cons (S.loop (I.list (E.var rfl) rfl) k1) (B.stop (S.ret (E.var rfl)) (fun e => nomatch e)))
noncomputable def rwx : List Nat := [114, 119, 120, 114, 119, 120, 114, 119, 120]
noncomputable def kindN : List Nat := [63, 112, 99, 63, 100, 63, 98, 63, 45, 63, 108, 63, 115, 63, 63, 63]
noncomputable def ownC (o : List Str) (g k : Nat) : Nat := if oNames[8 - k]?.getD w0 ∈ o.take g then rwx[k]?.getD 0 else 45
noncomputable def ownN (o : List Str) (g : Nat) : List Nat := ([0, 1, 2, 3, 4, 5, 6, 7, 8] : List Int).map fun k => ownC o g k.toNat
noncomputable def ownRow (o : List Str) (kind g : Nat) : CV := .str ⟨((kindN[kind]?.getD 0) :: ownN o g).toArray⟩
noncomputable abbrev owEl : CE := .ite (.cmp .In (.sub (.var 0) (.bin .Sub (.const (.int 8)) (.var 7))) (.var 5)) (.sub (.const (.str ⟨#[114, 119, 120, 114, 119, 120, 114, 119, 120]⟩)) (.var 7)) (.const (.str ⟨#[45]⟩))
noncomputable abbrev owSt (kind : Nat) (v4 v5 v6 v7 : Option CV) (H : List CO) (lo dp : Nat) : St := ⟨[some (.ref 34), some (.ref 35), some (.int kind), some (.ref 36), v4, v5, v6, v7], H, lo, dp⟩
noncomputable abbrev owBody : List CS := [.assign (.var 5) (.slice (.var 1) none (some (.var 4)) none),
    .assign (.var 6) (.comp owEl [7] (.range [.const (.int 9)]) []),
    .expr (.meth .append (.var 3) [.bin .Add (.sub (.const (.str ⟨#[63, 112, 99, 63, 100, 63, 98, 63, 45, 63, 108, 63, 115, 63, 63, 63]⟩)) (.var 2)) (.meth .join (.const (.str ⟨#[]⟩)) [.var 6])])]
theorem nat9 : ∀ x ∈ ([0, 1, 2, 3, 4, 5, 6, 7, 8] : List Int), ∃ k : Nat, k < 9 ∧ x = k := by
  intro x hx
  have : ∀ x ∈ ([0, 1, 2, 3, 4, 5, 6, 7, 8] : List Int), 0 ≤ x ∧ x < 9 := by decide
  obtain ⟨h1, h2⟩ := this x hx
  exact ⟨x.toNat, by omega, (Int.toNat_of_nonneg h1).symm⟩
theorem rwx_at : ∀ k : Nat, k < 9 → (#[114, 119, 120, 114, 119, 120, 114, 119, 120] : Array Nat).toList[k]? = some (rwx[k]?.getD 0) := by decide
theorem kind_at : ∀ k : Nat, k < 16 → (#[63, 112, 99, 63, 100, 63, 98, 63, 45, 63, 108, 63, 115, 63, 63, 63] : Array Nat).toList[k]? = some (kindN[k]?.getD 0) := by decide
theorem ow_el {o : List Str} {kind g k t : Nat} {v4 v6 : Option CV} {H : List CO} {lo : Nat} (hk : k < 9) (h34 : H[34]? = some (.list (oNames.map .str))) (ht : H[t]? = some (.list ((o.take g).map .str))) :
    E prog owEl (owSt kind v4 (some (.ref t)) v6 (some (.int k)) H lo 20) (.str (one (ownC o g k))) (owSt kind v4 (some (.ref t)) v6 (some (.int k)) H lo 20) := by
  have hx : oNames[8 - k]? = some (oNames[8 - k]?.getD w0) := by
    rw [List.getElem?_eq_getElem (by show 8 - k < 9; omega)]; rfl
  have e1 : E prog (.sub (.var 0) (.bin .Sub (.const (.int 8)) (.var 7))) (owSt kind v4 (some (.ref t)) v6 (some (.int k)) H lo 20) (.str (oNames[8 - k]?.getD w0)) (owSt kind v4 (some (.ref t)) v6 (some (.int k)) H lo 20) :=
    E.sub (u := .ref 34) (v := .int ((8 - k : Nat) : Int)) (E.var rfl) (E.bin E.const (E.var rfl) (by show some (CV.int (8 - (k : Int)), _) = _; rw [Int.ofNat_sub (by omega)]; rfl)) (sub_at (by exact h34) (by rw [List.getElem?_map, hx]; rfl) (by decide))
  have e2 : E prog (.cmp .In (.sub (.var 0) (.bin .Sub (.const (.int 8)) (.var 7))) (.var 5)) (owSt kind v4 (some (.ref t)) v6 (some (.int k)) H lo 20) (.bool (decide (oNames[8 - k]?.getD w0 ∈ o.take g))) (owSt kind v4 (some (.ref t)) v6 (some (.int k)) H lo 20) :=
    E.cmp e1 (E.var rfl) (in_list (by exact ht))
  unfold ownC
  by_cases h : oNames[8 - k]?.getD w0 ∈ o.take g
  · rw [if_pos h]
    rw [decide_eq_true h] at e2
    exact E.tt (T.bool e2) (E.sub E.const (E.var rfl) (str_at (rwx_at k hk) (by omega)))
  · rw [if_neg h]
    rw [decide_eq_false h] at e2
    exact E.ff (T.bool e2) E.const
theorem own_turn {o : List Str} {kind g : Nat} (hl : o.length = 9) (hkind : kind < 16) (hg : g < 10) {v5 v6 v7 : Option CV} {H : List CO} {rows : List CV} (h34 : H[34]? = some (.list (oNames.map .str))) (h35 : H[35]? = some (.list (o.map .str))) (h36 : H[36]? = some (.list rows)) (hr : rows.length ≤ 100) :
    ∃ v5' v6' H', B prog owBody (owSt kind (some (.int g)) v5 v6 v7 H 36 59) .next (owSt kind (some (.int g)) v5' v6' v7 H' 36 59) ∧ H'[34]? = some (.list (oNames.map .str)) ∧ H'[35]? = some (.list (o.map .str)) ∧ H'[36]? = some (.list (rows ++ [ownRow o kind g])) := by
  have e1 := slice_ok (P := prog) (a := .var 1) (lo := none) (hi := some (.var 4)) (s := none) (l := .none) (u := .int g) (t := .none) (l' := none) (u' := some (g : Int)) (t' := none) (xs := o.map .str) (k := 35) (st := owSt kind (some (.int g)) v5 v6 v7 H 36 59) (st1 := owSt kind (some (.int g)) v5 v6 v7 H 36 59) (st2 := owSt kind (some (.int g)) v5 v6 v7 H 36 59) (st3 := owSt kind (some (.int g)) v5 v6 v7 H 36 59) (st4 := owSt kind (some (.int g)) v5 v6 v7 H 36 59)
    (E.var rfl) O.none (O.some (E.var rfl)) O.none h35 rfl (by show (if small (g : Int) then some (some (g : Int)) else none) = _; rw [small_nat (by omega)]; rfl) rfl (by simp) (by rw [List.length_map]; omega)
  rw [pick_take (by rw [List.length_map]; exact hl) hg, ← List.map_take] at e1
  have hH34 : (H ++ [CO.list ((o.take g).map .str)])[34]? = _ := get_push h34
  have hHt : (H ++ [CO.list ((o.take g).map .str)])[H.length]? = some (.list ((o.take g).map .str)) := get_end
  obtain ⟨st', hG⟩ := comp_rng (P := prog) (ts := [7]) (el := owEl) (fun x => CV.str (one (ownC o g x.toNat))) (fun st => ∃ v7, st = owSt kind (some (.int g)) (some (.ref H.length)) v6 v7 (H ++ [.list ((o.take g).map .str)]) (H ++ [CO.list ((o.take g).map .str)]).length 20) (fun st ⟨v, e⟩ => by subst e; show 20 ≠ 0; omega) [0, 1, 2, 3, 4, 5, 6, 7, 8]
    (fun x hx st ⟨v, e⟩ => by
      subst e
      obtain ⟨k, hk, rfl⟩ := nat9 x hx
      exact ⟨(), _, _, rfl, by rw [Int.toNat_natCast]; exact ow_el hk hH34 hHt, _, rfl⟩)
    (owSt kind (some (.int g)) (some (.ref H.length)) v6 none (H ++ [.list ((o.take g).map .str)]) (H ++ [CO.list ((o.take g).map .str)]).length 20) [] ⟨none, rfl⟩
  have e2 := E.comp (P := prog) (it := .range [.const (.int 9)]) (cs := []) (st := owSt kind (some (.int g)) (some (.ref H.length)) v6 v7 (H ++ [.list ((o.take g).map .str)]) 36 59) (st1 := owSt kind (some (.int g)) (some (.ref H.length)) v6 v7 (H ++ [.list ((o.take g).map .str)]) 36 59) (I.of (n := 3) rfl) hG rfl rfl
  have hcs : [] ++ ([0, 1, 2, 3, 4, 5, 6, 7, 8] : List Int).map (fun x => CV.str (one (ownC o g x.toNat))) = (ownN o g).map fun c => .str (one c) := rfl
  rw [hcs] at e2
  generalize hH1 : H ++ [CO.list ((o.take g).map .str)] = H1 at *
  have g36 : (H1 ++ [CO.list ((ownN o g).map fun c => .str (one c))])[36]? = some (.list rows) := get_push (by rw [← hH1]; exact get_push h36)
  have e3 : E prog (.meth .join (.const (.str ⟨#[]⟩)) [.var 6]) (owSt kind (some (.int g)) (some (.ref H.length)) (some (.ref H1.length)) v7 (H1 ++ [.list ((ownN o g).map fun c => .str (one c))]) 36 59) (.str ⟨(ownN o g).toArray⟩) (owSt kind (some (.int g)) (some (.ref H.length)) (some (.ref H1.length)) v7 (H1 ++ [.list ((ownN o g).map fun c => .str (one c))]) 36 59) :=
    E.meth (u := .str ⟨#[]⟩) (un := ()) (vs := [.ref H1.length]) E.const rfl (Es.one (E.var rfl)) (join_ok get_end rfl)
  have e4 : E prog (.bin .Add (.sub (.const (.str ⟨#[63, 112, 99, 63, 100, 63, 98, 63, 45, 63, 108, 63, 115, 63, 63, 63]⟩)) (.var 2)) (.meth .join (.const (.str ⟨#[]⟩)) [.var 6])) (owSt kind (some (.int g)) (some (.ref H.length)) (some (.ref H1.length)) v7 (H1 ++ [.list ((ownN o g).map fun c => .str (one c))]) 36 59) (ownRow o kind g) (owSt kind (some (.int g)) (some (.ref H.length)) (some (.ref H1.length)) v7 (H1 ++ [.list ((ownN o g).map fun c => .str (one c))]) 36 59) := by
    refine E.bin (E.sub E.const (E.var rfl) (str_at (kind_at kind hkind) (by omega))) e3 ?_
    rw [cat_str (by show 1 ≤ 1000; omega) (by show (ownN o g).toArray.size ≤ 1000; rw [List.size_toArray]; show 9 ≤ 1000; omega)]
    have : ((⟨#[kindN[kind]?.getD 0]⟩ : Str) ++ ⟨(ownN o g).toArray⟩) = ⟨((kindN[kind]?.getD 0) :: ownN o g).toArray⟩ := by
      show Str.mk (#[kindN[kind]?.getD 0] ++ (ownN o g).toArray) = _
      congr 1
    rw [this, ownRow]
  have b3 := S.app (P := prog) (o := .var 3) (k := 36) (E.var rfl) e4 g36 (by omega) (by show 36 ≤ 36; omega)
  refine ⟨_, _, _, B.cons (S.set (i := 5) e1 (by show 5 < 8; omega)) (B.cons (S.set (i := 6) e2 (by show 6 < 8; omega)) (B.cons b3 B.nil)), ?_, ?_, get_set g36⟩
  · rw [get_ne (by omega)]; exact get_push hH34
  · rw [get_ne (by omega)]; exact get_push (by rw [← hH1]; exact get_push h35)
theorem own_ok {o : List Str} {kind : Nat} (hl : o.length = 9) (hkind : kind < 16) : ∃ st', C prog 229 [.ref 34, .ref 35, .int kind] (T1 [.list (oNames.map .str), .list (o.map .str)] 60) (.ref 36) st' ∧ st'.heap[36]? = some (.list ((List.range 10).map (ownRow o kind))) := by
  obtain ⟨st', k1, v4, v5, v6, H', e, q1, q2, q3⟩ := for_cnt (P := prog) (t := .var 4) (body := owBody) (m := 10) (fun g st => ∃ v4 v5 v6 H, st = owSt kind v4 v5 v6 none H 36 59 ∧ H[34]? = some (.list (oNames.map .str)) ∧ H[35]? = some (.list (o.map .str)) ∧ H[36]? = some (.list ((List.range g).map (ownRow o kind))))
    (fun g st ⟨_, _, _, _, e, _⟩ => by subst e; show 59 ≠ 0; omega)
    (fun g st hg ⟨v4, v5, v6, H, e, q1, q2, q3⟩ => by
      subst e
      obtain ⟨w5, w6, H', b, p1, p2, p3⟩ := own_turn (v5 := v5) (v6 := v6) (v7 := none) hl hkind hg q1 q2 q3 (by rw [List.length_map, List.length_range]; omega)
      refine ⟨(), _, _, rfl, b, _, _, _, H', rfl, p1, p2, ?_⟩
      rw [p3, List.range_succ, List.map_append]; rfl)
    10 0 (owSt kind none none none none (hp0 ++ [.list (oNames.map .str), .list (o.map .str), .list []]) 36 59) rfl ⟨_, _, _, _, rfl, rfl, rfl, rfl⟩
  subst e
  refine ⟨_, C.ret2 f__law_own (L2 := (owSt kind v4 v5 v6 none H' 36 59).loc) (H' := H') (lo2 := 36) (dp2 := 59) rfl rfl ?_, q3⟩
  exact B.cons (S.set (i := 3) (E.list Es.nil rfl) (by show 3 < 8; omega)) (B.cons (S.loop (i := .rng ((List.range' 0 10).map fun (i : Nat) => (i : Int))) (I.of (n := 3) rfl) k1) (B.stop (S.ret (E.var rfl)) (fun e => nomatch e)))
noncomputable def exC (cs : List Nat) (k : Nat) : Nat := if cs[9 - k]?.getD 0 = 45 then rwx[k]?.getD 0 else 45
noncomputable def exN (cs : List Nat) : List Nat := (cs[0]?.getD 0) :: ([0, 1, 2, 3, 4, 5, 6, 7, 8] : List Int).map fun k => exC cs k.toNat
noncomputable abbrev exEl : CE := .ite (.cmp .Eq (.sub (.var 0) (.bin .Sub (.const (.int 9)) (.var 1))) (.const (.str ⟨#[45]⟩))) (.sub (.const (.str ⟨#[114, 119, 120, 114, 119, 120, 114, 119, 120]⟩)) (.var 1)) (.const (.str ⟨#[45]⟩))
theorem ex_ok {cs : List Nat} (hl : cs.length = 10) : ∃ st', C prog 234 [.str ⟨cs.toArray⟩] (T1 [] 20) (.str ⟨(exN cs).toArray⟩) st' := by
  have hc : ∀ i : Nat, i < 10 → cs.toArray.toList[i]? = some (cs[i]?.getD 0) := fun i hi => by
    rw [List.toList_toArray, List.getElem?_eq_getElem (by omega)]; rfl
  obtain ⟨st', hG⟩ := comp_rng (P := prog) (ts := [1]) (el := exEl) (fun x => CV.str (one (exC cs x.toNat))) (fun st => ∃ v, st = ⟨[some (.str ⟨cs.toArray⟩), v], hp0, 34, 19⟩) (fun st ⟨v, e⟩ => by subst e; show 19 ≠ 0; omega) [0, 1, 2, 3, 4, 5, 6, 7, 8]
    (fun x hx st ⟨v, e⟩ => by
      subst e
      obtain ⟨k, hk, rfl⟩ := nat9 x hx
      refine ⟨(), ⟨[some (.str ⟨cs.toArray⟩), some (.int k)], hp0, 34, 19⟩, ⟨[some (.str ⟨cs.toArray⟩), some (.int k)], hp0, 34, 19⟩, rfl, ?_, _, rfl⟩
      rw [Int.toNat_natCast]
      have e1 : E prog (.sub (.var 0) (.bin .Sub (.const (.int 9)) (.var 1))) ⟨[some (.str ⟨cs.toArray⟩), some (.int k)], hp0, 34, 19⟩ (.str ⟨#[cs[9 - k]?.getD 0]⟩) ⟨[some (.str ⟨cs.toArray⟩), some (.int k)], hp0, 34, 19⟩ :=
        E.sub (v := .int ((9 - k : Nat) : Int)) (E.var rfl) (E.bin E.const (E.var rfl) (by show some (CV.int (9 - (k : Int)), _) = _; rw [Int.ofNat_sub (by omega)]; rfl)) (str_at (hc (9 - k) (by omega)) (by omega))
      have e2 := E.cmp (P := prog) (op := .Eq) e1 (E.const (v := .str ⟨#[45]⟩)) eq_one
      unfold exC
      by_cases h : cs[9 - k]?.getD 0 = 45
      · rw [if_pos h]
        rw [decide_eq_true h] at e2
        exact E.tt (T.bool e2) (E.sub E.const (E.var rfl) (str_at (rwx_at k hk) (by omega)))
      · rw [if_neg h]
        rw [decide_eq_false h] at e2
        exact E.ff (T.bool e2) E.const)
    ⟨[some (.str ⟨cs.toArray⟩), none], hp0, 34, 19⟩ [] ⟨none, rfl⟩
  have e2 := E.comp (P := prog) (it := .range [.const (.int 9)]) (cs := []) (st := ⟨[some (.str ⟨cs.toArray⟩), none], hp0, 34, 19⟩) (st1 := ⟨[some (.str ⟨cs.toArray⟩), none], hp0, 34, 19⟩) (I.of (n := 3) rfl) hG rfl rfl
  have hcs : [] ++ ([0, 1, 2, 3, 4, 5, 6, 7, 8] : List Int).map (fun x => CV.str (one (exC cs x.toNat))) = (([0, 1, 2, 3, 4, 5, 6, 7, 8] : List Int).map fun k => exC cs k.toNat).map fun c => .str (one c) := rfl
  rw [hcs] at e2
  have e3 := E.meth (P := prog) (p := .join) (u := .str ⟨#[]⟩) (un := ()) E.const rfl (Es.one e2) (join_ok get_end rfl)
  have e1 : E prog (.sub (.var 0) (.const (.int 0))) ⟨[some (.str ⟨cs.toArray⟩), none], hp0, 34, 19⟩ (.str ⟨#[cs[0]?.getD 0]⟩) ⟨[some (.str ⟨cs.toArray⟩), none], hp0, 34, 19⟩ := E.sub (v := .int ((0 : Nat) : Int)) (E.var rfl) E.const (str_at (hc 0 (by omega)) (by omega))
  have hcat : ∀ st : St, binV .Add (.str ⟨#[cs[0]?.getD 0]⟩) (.str ⟨(([0, 1, 2, 3, 4, 5, 6, 7, 8] : List Int).map fun k => exC cs k.toNat).toArray⟩) st = some (.str ⟨(exN cs).toArray⟩, st) := fun st => by
    rw [cat_str (by show 1 ≤ 1000; omega) (by show (List.toArray _).size ≤ 1000; rw [List.size_toArray]; show 9 ≤ 1000; omega)]
    rfl
  exact C.ret_ex f__law_exchanged rfl rfl ⟨_, B.stop (S.ret (E.bin e1 e3 (hcat _))) (fun e => nomatch e)⟩
end L2
end Mine
end

section
namespace Mine
namespace Pl
theorem and_low {k m b : Nat} (hm : m < 4096) (hb : b < 4096) : (4096 * k + m) &&& b = m &&& b := by
  apply Nat.eq_of_testBit_eq
  intro i
  rw [Nat.testBit_and, Nat.testBit_and]
  by_cases h : i < 12
  · rw [show 4096 * k + m = 2 ^ 12 * k + m from rfl, Nat.testBit_two_pow_mul_add k (show m < 2 ^ 12 from hm), if_pos h]
  · have : b.testBit i = false := Nat.testBit_lt_two_pow (Nat.lt_of_lt_of_le (show b < 2 ^ 12 from hb) (Nat.pow_le_pow_right (by decide) (by omega)))
    rw [this, Bool.and_false, Bool.and_false]
theorem and15 : ∀ k : Nat, k < 16 → k &&& 15 = k := by decide +kernel
theorem and_high {k m : Nat} (hk : k < 16) (hm : m < 4096) : (4096 * k + m) &&& 61440 = 4096 * k := by
  apply Nat.eq_of_testBit_eq
  intro i
  rw [Nat.testBit_and, show 4096 * k + m = 2 ^ 12 * k + m from rfl, Nat.testBit_two_pow_mul_add k (show m < 2 ^ 12 from hm), show (61440 : Nat) = 2 ^ 12 * 15 + 0 from rfl, Nat.testBit_two_pow_mul_add 15 (show 0 < 2 ^ 12 by decide),
    show 4096 * k = 2 ^ 12 * k + 0 from rfl, Nat.testBit_two_pow_mul_add k (show 0 < 2 ^ 12 by decide)]
  by_cases h : i < 12
  · rw [if_pos h, if_pos h, if_pos h, Nat.zero_testBit, Bool.and_false]
  · rw [if_neg h, if_neg h, if_neg h, ← Nat.testBit_and, and15 k hk]
theorem pickN_congr {f g : Int → Bool} {d : Nat} : ∀ {l : List (Int × Nat)}, (∀ p ∈ l, f p.1 = g p.1) → pickN f d l = pickN g d l := by
  intro l h
  induction l with
  | nil => rfl
  | cons p r ih =>
    unfold pickN
    rw [h p (.head _), ih fun q hq => h q (.tail _ hq)]
theorem bit_low {k m b : Nat} (hm : m < 4096) (hb : b < 4096) : Builtin.bitAnd ((4096 * k + m : Nat) : Int) (b : Int) = Builtin.bitAnd (m : Int) (b : Int) := by
  have h : ∀ x y : Nat, Builtin.bitAnd (x : Int) (y : Int) = ((x &&& y : Nat) : Int) := fun x y => rfl
  rw [h, h, and_low hm hb]
theorem bit_high {k m : Nat} (hk : k < 16) (hm : m < 4096) : Builtin.bitAnd ((4096 * k + m : Nat) : Int) 61440 = ((4096 * k : Nat) : Int) := by
  have h : ∀ x y : Nat, Builtin.bitAnd (x : Int) (y : Int) = ((x &&& y : Nat) : Int) := fun x y => rfl
  rw [show (61440 : Int) = ((61440 : Nat) : Int) from rfl, h, and_high hk hm]
theorem ch_low {k m i : Nat} (hm : m < 4096) (hi : i ≠ 0) {t : List (Nat × Int × Nat)} (ht : ∀ p ∈ t, ∃ b : Nat, b < 4096 ∧ p.2.1 = b) : chN ((4096 * k + m : Nat) : Int) i t = chN (m : Int) i t := by
  unfold chN
  rw [if_neg hi, if_neg hi]
  refine pickN_congr fun p hp => ?_
  obtain ⟨q, hq, rfl⟩ := List.mem_map.mp hp
  obtain ⟨b, hb, e⟩ := ht q hq
  show (Builtin.bitAnd _ q.2.1 == q.2.1) = (Builtin.bitAnd _ q.2.1 == q.2.1)
  rw [e, bit_low hm hb]
noncomputable def lowB (t : List (Nat × Int × Nat)) : Bool := t.all fun p => decide (0 ≤ p.2.1) && decide (p.2.1 < 4096)
theorem lowB_of {t : List (Nat × Int × Nat)} (h : lowB t = true) : ∀ p ∈ t, ∃ b : Nat, b < 4096 ∧ p.2.1 = b := fun p hp => by
  have := List.all_eq_true.mp h p hp
  obtain ⟨h1, h2⟩ := Bool.and_eq_true_iff.mp this
  have h1 := of_decide_eq_true h1
  have h2 := of_decide_eq_true h2
  exact ⟨p.2.1.toNat, by omega, by omega⟩
end Pl
namespace L2
open Pl
theorem kind_ch : ∀ k : Nat, k < 16 → pickN (fun b => ((4096 * k : Nat) : Int) == b) 63 ((tabs[0]?.getD []).map (·.2)) = kindN[k]?.getD 0 := by decide +kernel
theorem fm_low {k m : Nat} (hk : k < 16) (hm : m < 4096) : fmN ((4096 * k + m : Nat) : Int) = (kindN[k]?.getD 0) :: (fmN (m : Int)).tail := by
  have h0 : chN ((4096 * k + m : Nat) : Int) 0 (tabs[0]?.getD []) = kindN[k]?.getD 0 := by
    unfold chN
    rw [if_pos rfl, bit_high hk hm, kind_ch k hk]
  unfold fmN
  rw [h0]
  show _ = _ :: [_, _, _, _, _, _, _, _, _]
  rw [ch_low hm (by decide) (lowB_of (by decide +kernel)), ch_low hm (by decide) (lowB_of (by decide +kernel)), ch_low hm (by decide) (lowB_of (by decide +kernel)), ch_low hm (by decide) (lowB_of (by decide +kernel)), ch_low hm (by decide) (lowB_of (by decide +kernel)),
    ch_low hm (by decide) (lowB_of (by decide +kernel)), ch_low hm (by decide) (lowB_of (by decide +kernel)), ch_low hm (by decide) (lowB_of (by decide +kernel)), ch_low hm (by decide) (lowB_of (by decide +kernel))]
theorem rowsL_shift (a : Int) : ∀ (o : List Str) (m : Int), rowsL (a + m) o = (rowsL m o).map (a + ·)
  | [], m => rfl
  | x :: r, m => by
    show (a + m) :: rowsL (a + m + 2 ^ ix x) r = (a + m) :: (rowsL (m + 2 ^ ix x) r).map (a + ·)
    rw [Int.add_assoc, rowsL_shift a r]
noncomputable def rowsOk (o : List Str) : Bool := (rowsL 0 o).all (fun m => decide (0 ≤ m) && decide (m < 4096)) && ((rowsL 0 o).map (fun m => (fmN m).tail) == (List.range 10).map (ownN o)) && (rowsL 0 (slidS o)).all (fun m => decide (0 ≤ m) && decide (m < 4096))
  && ((rowsL 0 (slidS o)).map (fun m => (fmN m).tail) == (rowsL 0 o).reverse.map fun m => (exN (0 :: (fmN m).tail)).tail) && decide (o.length = 9) && o.all (fun y => decide (y ∈ oNames)) && decide ((slidS o).length = 9) && (slidS o).all (fun y => decide (y ∈ oNames))
theorem all_pc {α : Type} {f : α → Bool} (n : Nat) {l : List α} (h1 : (l.take n).all f = true) (h2 : (l.drop n).all f = true) : l.all f = true := by
  rw [← List.take_append_drop n l, List.all_append, h1, h2]
  rfl
theorem ways_rows0 : (oWays.take 7).all rowsOk = true := by decide +kernel
theorem ways_rows1 : ((oWays.drop 7).take 7).all rowsOk = true := by decide +kernel
theorem ways_rows2 : (((oWays.drop 7).drop 7).take 7).all rowsOk = true := by decide +kernel
theorem ways_rows3 : ((((oWays.drop 7).drop 7).drop 7).take 7).all rowsOk = true := by decide +kernel
theorem ways_rows4 : (((((oWays.drop 7).drop 7).drop 7).drop 7).take 7).all rowsOk = true := by decide +kernel
theorem ways_rows5 : (((((oWays.drop 7).drop 7).drop 7).drop 7).drop 7).all rowsOk = true := by decide +kernel
theorem ways_rows : oWays.all rowsOk = true := all_pc 7 ways_rows0 (all_pc 7 ways_rows1 (all_pc 7 ways_rows2 (all_pc 7 ways_rows3 (all_pc 7 ways_rows4 ways_rows5))))
end L2
end Mine
end

section
namespace Mine
namespace Pl
section
variable {P : Prog} {st st1 st2 st3 st4 st' : St}
noncomputable def Draws (xs : List Int) : Prop := ∀ x ∈ xs, 0 ≤ x ∧ x < 1000000
theorem intsOf_map : ∀ xs : List Int, intsOf (xs.map .int) = some xs
  | [] => rfl
  | x :: r => by show (intsOf (r.map .int)).map (x :: ·) = _; rw [intsOf_map r]; rfl
theorem strsOf_map : ∀ xs : List Str, strsOf (xs.map .str) = some xs
  | [] => rfl
  | x :: r => by show (strsOf (r.map .str)).map (x :: ·) = _; rw [strsOf_map r]; rfl
theorem smallAll_draws {xs : List Int} (h : Draws xs) : smallAll xs = true := by
  unfold smallAll
  rw [List.all_eq_true]
  intro x hx
  obtain ⟨h1, h2⟩ := h x hx
  rw [Bool.and_eq_true]
  exact ⟨decide_eq_true (Int.lt_of_lt_of_le (by decide) h1), decide_eq_true (Int.lt_trans h2 (by decide))⟩
theorem sum_nonneg {xs : List Int} (h : Draws xs) : 0 ≤ xs.sum := by
  induction xs with
  | nil => exact Int.le_refl 0
  | cons x r ih =>
    rw [List.sum_cons]
    have := (h x (.head _)).1
    have := ih (fun y hy => h y (.tail _ hy))
    omega
theorem sum_ok {k : Nat} {xs : List Int} (hk : st.heap[k]? = some (.list (xs.map .int))) (h : Draws xs) (hl : xs.length ≤ 1000) (hd : st.dep ≠ 0) : primV .sum [.ref k] st = some (.int xs.sum, st) := by
  have e : primV .sum [.ref k] = guardD (bnd (look (.ref k)) fun o => match o.2 with
    | .list xs => match intsOf xs with
      | some ns => if decide (ns.length ≤ 1000) && smallAll ns then rt (.int ns.sum) else no
      | none => no
    | _ => no) := rfl
  rw [e]
  unfold guardD
  rw [if_neg hd]
  unfold Mine.bnd
  rw [look_ok hk]
  simp only [intsOf_map, smallAll_draws h, decide_eq_true hl, Bool.and_self, if_true]
  rfl
noncomputable def strOks (xs : List Str) : Bool := xs.all PyData.strOk
theorem eq_lists {j k : Nat} {xs ys : List Str} (hj : st.heap[j]? = some (.list (xs.map .str))) (hk : st.heap[k]? = some (.list (ys.map .str))) (ox : strOks xs = true) (oy : strOks ys = true) :
    cmpV .Eq (.ref j) (.ref k) st = some (.bool (decide (xs = ys)), st) ∧ cmpV .NotEq (.ref j) (.ref k) st = some (.bool (!decide (xs = ys)), st) := by
  have e : eqO (.list (xs.map .str)) (.list (ys.map .str)) = some (decide (xs = ys)) := by
    unfold eqO
    dsimp only
    rw [strsOf_map, strsOf_map]
    dsimp only
    unfold strOks at ox oy
    rw [ox, oy]; rfl
  constructor
  · show Mine.bnd (look (.ref j)) _ st = _
    unfold Mine.bnd
    rw [look_ok hj]
    dsimp only
    show Mine.bnd (look (.ref k)) _ st = _
    unfold Mine.bnd
    rw [look_ok hk]
    dsimp only
    rw [e]; rfl
  · show Mine.bnd (look (.ref j)) _ st = _
    unfold Mine.bnd
    rw [look_ok hj]
    dsimp only
    show Mine.bnd (look (.ref k)) _ st = _
    unfold Mine.bnd
    rw [look_ok hk]
    dsimp only
    rw [e]; rfl
theorem strs_plain (xs : List Str) : ∀ x ∈ xs.map CV.str, isV x = true := fun x h => by
  obtain ⟨p, _, rfl⟩ := List.mem_map.mp h; rfl
theorem strs_flat (xs : List Str) : flat 34 (.list (xs.map .str)) = true := by
  show (xs.map CV.str).all (under 34) = true
  rw [List.all_eq_true]
  intro y hy
  obtain ⟨p, _, rfl⟩ := List.mem_map.mp hy
  rfl
theorem callLLI_o (hT : P.top = 34) {f : Addr} {x y z : CE} {i : Int} {j k l : Nat} {xs ys : List CV} {R : List CO} {o : CO} (he : Es P [x, y, z] st [.ref j, .ref k, .int i] st1) (hH : st1.heap = hp0 ++ R) (hjk : j ≠ k) (hj : st1.heap[j]? = some (.list xs)) (h34 : 34 ≤ j) (hp : ∀ x ∈ xs, isV x = true)
    (hk : st1.heap[k]? = some (.list ys)) (h34' : 34 ≤ k) (hp' : ∀ x ∈ ys, isV x = true) (h : C P f [.ref 34, .ref 35, .int i] (T1 [.list xs, .list ys] st1.dep) (.ref l) st2) (hl : 36 ≤ l) (ho : st2.heap[l]? = some o) (hf : flat 34 o = true) :
    E P (.callf f true [x, y, z]) st (.ref st1.heap.length) { st1 with heap := st1.heap ++ [o] } := by
  refine E.callo (P := P) he (args' := [.ref 34, .ref 35, .int i]) (hs := [.list xs, .list ys]) (ks := [j, k]) ?_ ?_ ?_ (k := l) ?_ ho (by rw [hT]; exact hf)
  · rw [hT, hH]; exact top_flat R
  · rw [hT]
    unfold cpL
    rw [cp_list h34 hj hp]
    dsimp only
    unfold cpL
    rw [cp_list h34' hk hp']
    rfl
  · rw [hT, hH, top_take]; exact h
  · rw [hT]; exact hl
end
end Pl
namespace L2
open Pl
noncomputable def drawn (script : List Int) : List Int := (pick script none (some 12) none).map fun n => n.fmod 1000000
theorem drawn_ok (script : List Int) : Draws (drawn script) := by
  intro x hx
  obtain ⟨n, _, rfl⟩ := List.mem_map.mp hx
  exact ⟨Int.fmod_nonneg_of_pos _ (by decide), Int.fmod_lt_of_pos _ (by decide)⟩
theorem drawn_len {script : List Int} (h : script.length ≤ 63) : (drawn script).length ≤ 63 := by
  unfold drawn
  rw [List.length_map]
  exact Nat.le_trans (pick_len (by decide)) h
theorem pick_draws {ds : List Int} (h : Draws ds) (a b c : Option Int) : Draws (pick ds a b c) := fun x hx => h x (pick_mem hx)
noncomputable abbrev drEl : CE := .bin .Mod (.prim .int [.var 8]) (.bin .Pow (.const (.int 10)) (.const (.int 6)))
noncomputable abbrev lSt (v1 v2 v3 v4 v5 v6 v7 v8 v9 : Option CV) (H : List CO) (lo dp : Nat) : St := ⟨[some (.ref 34), v1, v2, v3, v4, v5, v6, v7, v8, v9], H, lo, dp⟩
theorem dr_ok {script : List Int} (hs : script.length ≤ 63) : E prog (.comp drEl [8] (.plain (.slice (.var 0) none (some (.const (.int 12))) none)) []) (lSt none none none none none none none none none (hp0 ++ [.list (script.map .int)]) 35 60) (.ref 36)
    (lSt none none none none none none none none none (hp0 ++ [.list (script.map .int), .list ((pick script none (some 12) none).map .int), .list ((drawn script).map .int)]) 35 60) := by
  have e1 : E prog (.slice (.var 0) none (some (.const (.int 12))) none) (lSt none none none none none none none none none (hp0 ++ [.list (script.map .int)]) 35 60) (.ref 35) (lSt none none none none none none none none none (hp0 ++ [.list (script.map .int), .list ((pick script none (some 12) none).map .int)]) 35 60) := by
    have := slice_ok (P := prog) (a := .var 0) (lo := none) (hi := some (.const (.int 12))) (s := none) (l := .none) (u := .int 12) (t := .none) (l' := none) (u' := some 12) (t' := none) (xs := script.map .int) (k := 34) (st := lSt none none none none none none none none none (hp0 ++ [.list (script.map .int)]) 35 60) (st1 := lSt none none none none none none none none none (hp0 ++ [.list (script.map .int)]) 35 60) (st2 := lSt none none none none none none none none none (hp0 ++ [.list (script.map .int)]) 35 60) (st3 := lSt none none none none none none none none none (hp0 ++ [.list (script.map .int)]) 35 60) (st4 := lSt none none none none none none none none none (hp0 ++ [.list (script.map .int)]) 35 60)
      (E.var rfl) O.none (O.some E.const) O.none rfl rfl rfl rfl (by simp) (by rw [List.length_map]; omega)
    rw [pick_map] at this
    exact this
  obtain ⟨stG, hG⟩ := comp_seq (P := prog) (b := false) (k := 35) (xs := (pick script none (some 12) none).map .int) (ts := [8]) (el := drEl) (fun v => match v with | .int n => .int (n.fmod 1000000) | v => v)
    (fun _ st => ∃ v, st = lSt none none none none none none none v none (hp0 ++ [.list (script.map .int), .list ((pick script none (some 12) none).map .int)]) 36 20)
    (fun i st ⟨v2, e⟩ => by subst e; exact ⟨rfl, by show 20 ≠ 0; omega⟩)
    (fun i v st hv ⟨v2, e⟩ => by
      subst e
      rw [List.getElem?_map] at hv
      obtain ⟨n, _, rfl⟩ := Option.map_eq_some_iff.mp hv
      exact ⟨(), _, _, rfl, E.bin (u := .int n) (v := .int 1000000) (E.prim (Es.one (E.var rfl)) rfl) (E.bin E.const E.const rfl) rfl, _, rfl⟩)
    ((pick script none (some 12) none).map CV.int).length 0 (lSt none none none none none none none none none (hp0 ++ [.list (script.map .int), .list ((pick script none (some 12) none).map .int)]) 36 20) [] (by omega) ⟨none, rfl⟩
  have hdr : [] ++ (((pick script none (some 12) none).map CV.int).drop 0).map (fun v => match v with | .int n => .int (n.fmod 1000000) | v => v) = (drawn script).map CV.int := by
    unfold drawn
    rw [List.nil_append, List.drop_zero, List.map_map, List.map_map]; rfl
  rw [hdr] at hG
  have hu1 : ((drawn script).map CV.int).all (under 36) = true := by
    rw [List.all_eq_true]
    intro x hx
    obtain ⟨n, _, rfl⟩ := List.mem_map.mp hx
    rfl
  have hl1 : lenOk ((drawn script).map CV.int) = true := decide_eq_true (by rw [List.length_map]; exact Nat.le_trans (drawn_len hs) (by decide))
  exact E.comp (st1 := lSt none none none none none none none none none (hp0 ++ [.list (script.map .int), .list ((pick script none (some 12) none).map .int)]) 35 60) (I.list e1 rfl) hG hu1 hl1
end L2
end Mine
end

section
namespace Mine
namespace L2
open Pl
noncomputable abbrev HB (o1 o2 o3 : CO) : List CO := hp0 ++ ([o1, o2, o3] ++ hNeeds)
theorem cp_args (o1 o2 o3 o4 : CO) (code : Int) : cpL (cpV (HB o1 o2 o3 ++ [o4]) 34 3) [.ref 37, .ref 38, .int code] ([], []) = some ([.ref 34, .ref 44, .int code], hArgs, [37, 39, 40, 41, 42, 43, 44, 45, 46, 47, 38]) := by kernel_rfl
theorem cp_need (o1 o2 o3 o4 o5 o6 o7 : CO) : cpV (HB o1 o2 o3 ++ [o4, o5, o6, o7]) 34 3 (.ref 38) ([], []) = some (.ref 43, (hNd, [39, 40, 41, 42, 43, 44, 45, 46, 47, 38])) := by kernel_rfl
theorem rows_eq {o : List Str} {kind : Nat} (hk : kind < 16) {ms : List Int} (hr : ms.all (fun m => decide (0 ≤ m) && decide (m < 4096)) = true) : (ms.map (((4096 * kind : Nat) : Int) + ·)).map (fun m => CV.str (fmS m)) = (ms.map fun m => (fmN m).tail).map fun t => CV.str ⟨((kindN[kind]?.getD 0) :: t).toArray⟩ := by
  rw [List.map_map, List.map_map]
  refine List.map_congr_left fun m hm => ?_
  have h := List.all_eq_true.mp hr m hm
  obtain ⟨h1, h2⟩ := Bool.and_eq_true_iff.mp h
  have h1 := of_decide_eq_true h1
  have h2 := of_decide_eq_true h2
  obtain ⟨n, rfl⟩ : ∃ n : Nat, m = n := ⟨m.toNat, (Int.toNat_of_nonneg h1).symm⟩
  show CV.str (fmS (((4096 * kind : Nat) : Int) + (n : Int))) = CV.str _
  unfold fmS
  rw [show ((4096 * kind : Nat) : Int) + (n : Int) = ((4096 * kind + n : Nat) : Int) from rfl, fm_low hk (by omega)]
structure RowsOk (o : List Str) : Prop where
  r1 : (rowsL 0 o).all (fun m => decide (0 ≤ m) && decide (m < 4096)) = true
  r2 : (rowsL 0 o).map (fun m => (fmN m).tail) = (List.range 10).map (ownN o)
  r3 : (rowsL 0 (slidS o)).all (fun m => decide (0 ≤ m) && decide (m < 4096)) = true
  r4 : (rowsL 0 (slidS o)).map (fun m => (fmN m).tail) = (rowsL 0 o).reverse.map fun m => (exN (0 :: (fmN m).tail)).tail
  l1 : o.length = 9
  n1 : ∀ y ∈ o, y ∈ oNames
  l2 : (slidS o).length = 9
  n2 : ∀ y ∈ slidS o, y ∈ oNames
theorem rowsOk_of {o : List Str} (h : o ∈ oWays) : RowsOk o := by
  have h := List.all_eq_true.mp ways_rows o h
  unfold rowsOk at h
  simp only [Bool.and_eq_true, beq_iff_eq, decide_eq_true_eq] at h
  obtain ⟨⟨⟨⟨⟨⟨⟨a, b⟩, c⟩, d⟩, e⟩, f⟩, g⟩, i⟩ := h
  exact ⟨a, b, c, d, e, fun y hy => of_decide_eq_true (List.all_eq_true.mp f y hy), g, fun y hy => of_decide_eq_true (List.all_eq_true.mp i y hy)⟩
noncomputable def rowS (kind : Nat) (t : List Nat) : Str := ⟨((kindN[kind]?.getD 0) :: t).toArray⟩
noncomputable def tails (o : List Str) : List (List Nat) := (rowsL 0 o).map fun m => (fmN m).tail
theorem first_is {o : List Str} (hr : (rowsL 0 o).all (fun m => decide (0 ≤ m) && decide (m < 4096)) = true) {kind : Nat} (hk : kind < 16) : listing (rowsL ((4096 * kind : Nat) : Int) o) = ((tails o).map (rowS kind)).map .str := by
  have := rowsL_shift ((4096 * kind : Nat) : Int) o 0
  rw [Int.add_zero] at this
  rw [this]
  unfold listing
  rw [rows_eq (o := o) hk hr]
  unfold tails
  rw [List.map_map, List.map_map, List.map_map]
  rfl
theorem own_is {o : List Str} (R : RowsOk o) {kind : Nat} : (List.range 10).map (ownRow o kind) = ((tails o).map (rowS kind)).map .str := by
  unfold tails
  rw [R.r2, List.map_map, List.map_map]
  rfl
theorem ex_cons (c : Nat) (t : List Nat) : exN (c :: t) = c :: (exN (0 :: t)).tail := rfl
theorem slid_is {o : List Str} (R : RowsOk o) {kind : Nat} : (tails (slidS o)).map (rowS kind) = ((tails o).reverse.map fun t => (⟨(exN ((kindN[kind]?.getD 0) :: t)).toArray⟩ : Str)) := by
  unfold tails
  rw [R.r4, List.map_map, ← List.map_reverse, List.map_map]
  refine List.map_congr_left fun m _ => ?_
  show rowS kind _ = (⟨(exN ((kindN[kind]?.getD 0) :: (fmN m).tail)).toArray⟩ : Str)
  rw [ex_cons (kindN[kind]?.getD 0)]
  rfl
theorem tails_len {o : List Str} (h : o.length = 9) : (tails o).length = 10 := by
  unfold tails
  rw [List.length_map, rowsL_len, h]
theorem pick10 {xs : List CV} (h : xs.length = 10) : pick xs none none (some (-1)) = xs.reverse := by
  revert xs
  suffices H : ∀ xs : List CV, xs.length = 10 → pick xs none none (some (-1)) = xs.reverse from fun {xs} h => H xs h
  refine len_cons fun a => len_cons fun b => len_cons fun c => len_cons fun d => len_cons fun e => len_cons fun f => len_cons fun g => len_cons fun h => len_cons fun i => len_cons fun j => len_nil (by kernel_rfl)
noncomputable def charsOk (o : List Str) : Bool := (tails o).all (fun t => t.all fun c => decide (c < 128)) && (tails (slidS o)).all (fun t => t.all fun c => decide (c < 128))
theorem ways_chars0 : (oWays.take 7).all charsOk = true := by decide +kernel
theorem ways_chars1 : ((oWays.drop 7).take 7).all charsOk = true := by decide +kernel
theorem ways_chars2 : (((oWays.drop 7).drop 7).take 7).all charsOk = true := by decide +kernel
theorem ways_chars3 : ((((oWays.drop 7).drop 7).drop 7).take 7).all charsOk = true := by decide +kernel
theorem ways_chars4 : (((((oWays.drop 7).drop 7).drop 7).drop 7).take 7).all charsOk = true := by decide +kernel
theorem ways_chars5 : (((((oWays.drop 7).drop 7).drop 7).drop 7).drop 7).all charsOk = true := by decide +kernel
theorem ways_chars : oWays.all charsOk = true := all_pc 7 ways_chars0 (all_pc 7 ways_chars1 (all_pc 7 ways_chars2 (all_pc 7 ways_chars3 (all_pc 7 ways_chars4 ways_chars5))))
theorem kind_char : ∀ k : Nat, k < 16 → kindN[k]?.getD 0 < 128 := by decide
theorem strs_ok {ts : List (List Nat)} (h : ts.all (fun t => t.all fun c => decide (c < 128)) = true) {kind : Nat} (hk : kind < 16) : strOks (ts.map (rowS kind)) = true := by
  unfold strOks
  rw [List.all_eq_true]
  intro x hx
  obtain ⟨t, ht, rfl⟩ := List.mem_map.mp hx
  have h1 := List.all_eq_true.mp (List.all_eq_true.mp h t ht)
  show Array.all _ _ = true
  rw [← Array.all_toList, List.all_eq_true]
  intro c hc
  have hc : c ∈ (kindN[kind]?.getD 0) :: t := hc
  refine decide_eq_true ?_
  rcases List.mem_cons.mp hc with rfl | hc
  · exact Nat.lt_trans (kind_char kind hk) (by decide)
  · exact Nat.lt_trans (of_decide_eq_true (h1 c hc)) (by decide)
end L2
end Mine
end

section
namespace Mine
namespace Pl
section
variable {P : Prog} {st st1 st2 : St}
theorem call_o (hT : P.top = 34) {f : Addr} {xs : List CE} {args args' : List CV} {hs : List CO} {ks : List Nat} {l : Nat} {R : List CO} {o : CO} (he : Es P xs st args st1) (hH : st1.heap = hp0 ++ R) (hc : cpL (cpV st1.heap 34 3) args ([], []) = some (args', hs, ks))
    (h : C P f args' (T1 hs st1.dep) (.ref l) st2) (hl : 34 + hs.length ≤ l) (ho : st2.heap[l]? = some o) (hf : flat 34 o = true) : E P (.callf f true xs) st (.ref st1.heap.length) { st1 with heap := st1.heap ++ [o] } := by
  refine E.callo (P := P) he (args' := args') (hs := hs) (ks := ks) ?_ ?_ ?_ (k := l) ?_ ho (by rw [hT]; exact hf)
  · rw [hT, hH]; exact top_flat R
  · rw [hT]; exact hc
  · rw [hT, hH, top_take]; exact h
  · rw [hT]; exact hl
theorem mul_int {x y : Int} (hx : small x = true) (hy : small y = true) : binV .Mult (.int x) (.int y) st = some (.int (x * y), st) := by
  have : binI .Mult x y = some (x * y) := by
    show (if small x && small y then some (x * y) else none) = _
    rw [hx, hy]; rfl
  show (match binI .Mult x y with | some z => rt (CV.int z) | none => no) st = _
  rw [this]; rfl
end
end Pl
namespace L2
open Pl
theorem sum_e {st : St} {ds : List Int} (h1 : st.loc[1]? = some (some (.ref 36))) (h36 : st.heap[36]? = some (.list (ds.map .int))) (hd : Draws ds) (hl : ds.length ≤ 63) (hdep : st.dep ≠ 0) :
    E prog (.prim .sum [.slice (.var 1) none none (some (.const (.int 2)))]) st (.int (pick ds none none (some 2)).sum) { st with heap := st.heap ++ [.list ((pick ds none none (some 2)).map .int)] } := by
  have e := slice_ok (P := prog) (a := .var 1) (lo := none) (hi := none) (s := some (.const (.int 2))) (l := .none) (u := .none) (t := .int 2) (l' := none) (u' := none) (t' := some 2) (xs := ds.map .int) (k := 36) (st := st) (st1 := st) (st2 := st) (st3 := st) (st4 := st)
    (E.var h1) O.none O.none (O.some E.const) h36 rfl rfl rfl (by simp) (by rw [List.length_map]; omega)
  rw [pick_map] at e
  exact E.prim (Es.one e) (sum_ok (xs := pick ds none none (some 2)) get_end (pick_draws hd _ _ _) (by have := pick_len (xs := ds) (lo := none) (hi := none) (s := some 2) (by decide); omega) hdep)
theorem sum_o {st : St} {ds : List Int} (h1 : st.loc[1]? = some (some (.ref 36))) (h36 : st.heap[36]? = some (.list (ds.map .int))) (hd : Draws ds) (hl : ds.length ≤ 63) (hdep : st.dep ≠ 0) :
    E prog (.prim .sum [.slice (.var 1) (some (.const (.int 1))) none (some (.const (.int 2)))]) st (.int (pick ds (some 1) none (some 2)).sum) { st with heap := st.heap ++ [.list ((pick ds (some 1) none (some 2)).map .int)] } := by
  have e := slice_ok (P := prog) (a := .var 1) (lo := some (.const (.int 1))) (hi := none) (s := some (.const (.int 2))) (l := .int 1) (u := .none) (t := .int 2) (l' := some 1) (u' := none) (t' := some 2) (xs := ds.map .int) (k := 36) (st := st) (st1 := st) (st2 := st) (st3 := st) (st4 := st)
    (E.var h1) (O.some E.const) O.none (O.some E.const) h36 rfl rfl rfl (by simp) (by rw [List.length_map]; omega)
  rw [pick_map] at e
  exact E.prim (Es.one e) (sum_ok (xs := pick ds (some 1) none (some 2)) get_end (pick_draws hd _ _ _) (by have := pick_len (xs := ds) (lo := some 1) (hi := none) (s := some 2) (by decide); omega) hdep)
theorem HB_is (o1 o2 o3 : CO) (R : List CO) : HB o1 o2 o3 ++ R = hp0 ++ (([o1, o2, o3] ++ hNeeds) ++ R) := List.append_assoc _ _ _
theorem HB_37 (o1 o2 o3 : CO) (R : List CO) : (HB o1 o2 o3 ++ R)[37]? = some (.list (oNames.map .str)) := rfl
theorem HB_len (o1 o2 o3 : CO) : (HB o1 o2 o3).length = 49 := rfl
theorem HB_at (o1 o2 o3 : CO) (R : List CO) (i : Nat) : (HB o1 o2 o3 ++ R)[49 + i]? = R[i]? := by
  rw [List.getElem?_append_right (by rw [HB_len]; omega), HB_len]
  congr 1; omega
theorem needs_e (o1 o2 o3 : CO) : S prog (.assign (.vars [2, 3]) (.callf 203 false [])) (lSt (some (.ref 36)) none none none none none none none none (hp0 ++ [o1, o2, o3]) 35 60) .next (lSt (some (.ref 36)) (some (.ref 37)) (some (.ref 38)) none none none none none none (HB o1 o2 o3) 35 60) := by
  refine S.assign (v := .ref 48) (st1 := lSt (some (.ref 36)) none none none none none none none none (HB o1 o2 o3) 35 60) (u := ()) (E.callf Es.nil (C.of (needs_ok o1 o2 o3 _))) ?_
  exact ⟨0, fun m _ => by
    show asgT prog (run prog m) (.vars [2, 3]) (.ref 48) _ = _
    kernel_rfl⟩
noncomputable def exV (v : CV) : CV := match v with
  | .str x => .str ⟨(exN x.cps.toList).toArray⟩
  | v => v
theorem tails_9 {o : List Str} {t : List Nat} (h : t ∈ tails o) : t.length = 9 := by
  obtain ⟨m, _, rfl⟩ := List.mem_map.mp h
  rfl
theorem row_len {kind : Nat} {t : List Nat} (h : t.length = 9) : ((kindN[kind]?.getD 0) :: t).length = 10 := by rw [List.length_cons, h]
theorem app2 {H : List CO} {R : List CO} {x : CO} : (H ++ R) ++ [x] = H ++ (R ++ [x]) := List.append_assoc _ _ _
theorem ex_comp {ts : List (List Nat)} (h9 : ∀ t ∈ ts, t.length = 9) (hl : ts.length = 10) {kind k : Nat} {v1 v2 v3 v4 v5 v6 v7 v8 : Option CV} {H R : List CO} (hH : H = hp0 ++ R) (hk : H[k]? = some (.list ((ts.map (rowS kind)).map .str))) {lo : Nat} :
    ∃ st', G prog (.seq false k 0) [9] [] (.callf 234 true [.var 9]) [] (lSt v1 v2 v3 v4 v5 v6 v7 v8 none H lo 20) ((ts.map fun t => (⟨(exN ((kindN[kind]?.getD 0) :: t)).toArray⟩ : Str)).map .str) st' := by
  obtain ⟨stG, hG⟩ := comp_seq (P := prog) (b := false) (k := k) (xs := (ts.map (rowS kind)).map .str) (ts := [9]) (el := .callf 234 true [.var 9]) exV
    (fun _ st => ∃ v, st = lSt v1 v2 v3 v4 v5 v6 v7 v8 v H lo 20)
    (fun i st ⟨v, e⟩ => by subst e; exact ⟨hk, by show 20 ≠ 0; omega⟩)
    (fun i v st hv ⟨v2, e⟩ => by
      subst e
      rw [List.map_map, List.getElem?_map] at hv
      obtain ⟨t, ht, rfl⟩ := Option.map_eq_some_iff.mp hv
      have ht9 := h9 t (List.mem_of_getElem? ht)
      obtain ⟨st2, hx⟩ := ex_ok (cs := (kindN[kind]?.getD 0) :: t) (row_len ht9)
      exact ⟨(), _, _, rfl, call1s (P := prog) rfl hH (E.var rfl) hx rfl, _, rfl⟩)
    ((ts.map (rowS kind)).map CV.str).length 0 (lSt v1 v2 v3 v4 v5 v6 v7 v8 none H lo 20) [] (by omega) ⟨none, rfl⟩
  rw [List.nil_append, List.drop_zero] at hG
  refine ⟨stG, ?_⟩
  have : ((ts.map (rowS kind)).map CV.str).map exV = (ts.map fun t => (⟨(exN ((kindN[kind]?.getD 0) :: t)).toArray⟩ : Str)).map .str := by
    rw [List.map_map, List.map_map, List.map_map]
    rfl
  rw [this] at hG
  exact hG
set_option maxHeartbeats 4000000 in
theorem law_ok (script : List Int) (hs : script.length ≤ 63) : ∃ st, B prog b_law (lSt none none none none none none none none none (hp0 ++ [.list (script.map .int)]) 35 60) (.ret (.bool true)) st := by
  have hd := drawn_ok script
  have hl := drawn_len hs
  have e1 := dr_ok hs
  generalize CO.list (script.map CV.int) = o1 at *
  generalize CO.list ((pick script none (some 12) none).map CV.int) = oA at *
  generalize drawn script = ds at *
  have h36 : ∀ R, (HB o1 oA (.list (ds.map .int)) ++ R)[36]? = some (.list (ds.map .int)) := fun _ => rfl
  have s2 := needs_e o1 oA (.list (ds.map .int))
  have n37 := HB_37 o1 oA (.list (ds.map .int))
  have nIs := HB_is o1 oA (.list (ds.map .int))
  have nAt := HB_at o1 oA (.list (ds.map .int))
  have cpA := fun x code => cp_args o1 oA (.list (ds.map .int)) x code
  have cpN := fun x y z w => cp_need o1 oA (.list (ds.map .int)) x y z w
  have nLen := HB_len o1 oA (.list (ds.map .int))
  generalize hB : HB o1 oA (.list (ds.map .int)) = H at *
  have hS := sum_nonneg (pick_draws hd none none (some 2))
  obtain ⟨o, ho, sto, hco, ho76⟩ := course_ok (code := 9 + (pick ds none none (some 2)).sum) (by omega)
  have R := rowsOk_of ho
  have hch := Bool.and_eq_true_iff.mp (List.all_eq_true.mp ways_chars o ho)
  have es3 : Es prog [.var 2, .var 3, .bin .Add (.const (.int 9)) (.prim .sum [.slice (.var 1) none none (some (.const (.int 2)))])] (lSt (some (.ref 36)) (some (.ref 37)) (some (.ref 38)) none none none none none none H 35 60) [.ref 37, .ref 38, .int (9 + (pick ds none none (some 2)).sum)]
      (lSt (some (.ref 36)) (some (.ref 37)) (some (.ref 38)) none none none none none none (H ++ [.list ((pick ds none none (some 2)).map .int)]) 35 60) :=
    Es.cons (E.var rfl) (Es.cons (E.var rfl) (Es.one (E.bin E.const (sum_e rfl (by have := h36 []; rw [List.append_nil] at this; exact this) hd hl (by show 60 ≠ 0; omega)) rfl)))
  have c3 := call_o (P := prog) (f := 210) rfl es3 (nIs _) (cpA _ _) hco (by show 45 ≤ 76; omega) ho76 (strs_flat o)
  generalize CO.list ((pick ds none none (some 2)).map CV.int) = oS at *
  obtain ⟨kind, hkind, hkd⟩ : ∃ kind : Nat, kind < 16 ∧ (4 + (pick ds (some 1) none (some 2)).sum).fmod 16 = kind := by
    have h1 : 0 ≤ (4 + (pick ds (some 1) none (some 2)).sum).fmod 16 := Int.fmod_nonneg_of_pos _ (by decide)
    have h2 : (4 + (pick ds (some 1) none (some 2)).sum).fmod 16 < 16 := Int.fmod_lt_of_pos _ (by decide)
    exact ⟨((4 + (pick ds (some 1) none (some 2)).sum).fmod 16).toNat, by omega, (Int.toNat_of_nonneg h1).symm⟩
  generalize hC : CO.list (o.map CV.str) = oC at *
  have l1 : (H ++ [oS]).length = 50 := by rw [List.length_append, nLen]; rfl
  dsimp only at c3
  rw [l1, app2] at c3
  have e5 : E prog (.bin .Mod (.bin .Add (.const (.int 4)) (.prim .sum [.slice (.var 1) (some (.const (.int 1))) none (some (.const (.int 2)))])) (.const (.int 16))) (lSt (some (.ref 36)) (some (.ref 37)) (some (.ref 38)) (some (.ref 50)) none none none none none (H ++ [oS, oC]) 35 60) (.int kind)
      (lSt (some (.ref 36)) (some (.ref 37)) (some (.ref 38)) (some (.ref 50)) none none none none none (H ++ [oS, oC, .list ((pick ds (some 1) none (some 2)).map .int)]) 35 60) := by
    rw [← hkd]
    have := E.bin (P := prog) (op := .Add) (E.const (v := .int 4)) (sum_o (st := lSt (some (.ref 36)) (some (.ref 37)) (some (.ref 38)) (some (.ref 50)) none none none none none (H ++ [oS, oC]) 35 60) rfl (h36 _) hd hl (by show 60 ≠ 0; omega)) rfl
    dsimp only at this
    rw [app2] at this
    exact E.bin this E.const (mod_ok (by decide))
  generalize CO.list ((pick ds (some 1) none (some 2)).map CV.int) = oT at *
  have hM : (4096 : Int) * (kind : Int) = ((4096 * kind : Nat) : Int) := by omega
  have mul : ∀ {st : St}, st.loc[5]? = some (some (.int kind)) → E prog (.bin .Mult (.const (.int 4096)) (.var 5)) st (.int ((4096 * kind : Nat) : Int)) st := fun h => by
    rw [← hM]
    exact E.bin E.const (E.var h) (mul_int (by decide) (small_nat (by omega)))
  obtain ⟨st6, k6, g6⟩ := rows_ok R.l1 R.n1 ((4096 * kind : Nat) : Int)
  rw [first_is R.r1 hkind] at g6
  have c6 := callLLI_o (P := prog) (f := 224) (x := .var 2) (y := .var 4) (z := .bin .Mult (.const (.int 4096)) (.var 5)) (st := lSt (some (.ref 36)) (some (.ref 37)) (some (.ref 38)) (some (.ref 50)) (some (.int kind)) none none none none (H ++ [oS, oC, oT]) 35 60) rfl (Es.cons (E.var rfl) (Es.cons (E.var rfl) (Es.one (mul rfl)))) (nIs _) (j := 37) (k := 50) (by decide) (n37 _) (by decide) (strs_plain _)
    (by have := nAt [oS, oC, oT] 1; rw [← hC] at this ⊢; exact this) (by decide) (strs_plain _) k6 (by decide) g6 (strs_flat _)
  have l6 : (H ++ [oS, oC, oT]).length = 52 := by rw [List.length_append, nLen]; rfl
  dsimp only at c6
  rw [l6, app2] at c6
  generalize hF : CO.list (((tails o).map (rowS kind)).map CV.str) = oF at *
  obtain ⟨st7, k7, g7⟩ := slid_ok R.l1 R.n1
  have c7 := call_o (P := prog) (f := 217) (st := lSt (some (.ref 36)) (some (.ref 37)) (some (.ref 38)) (some (.ref 50)) (some (.int kind)) (some (.ref 52)) none none none (H ++ [oS, oC, oT, oF]) 35 60) (xs := [.var 3, .var 4]) (args := [.ref 38, .ref 50]) (args' := [.ref 43, .ref 44]) (hs := hNd ++ [.list (o.map .str)]) (ks := [39, 40, 41, 42, 43, 44, 45, 46, 47, 38] ++ [50]) rfl (Es.cons (E.var rfl) (Es.one (E.var rfl))) (nIs _) (by
      unfold cpL
      rw [cpN]
      dsimp only
      unfold cpL
      rw [cp_list (xs := o.map .str) (by decide) (by have := nAt [oS, oC, oT, oF] 1; rw [← hC] at this ⊢; exact this) (strs_plain _)]
      rfl) k7 (by show 45 ≤ 45; omega) g7 (strs_flat _)
  have l7 : (H ++ [oS, oC, oT, oF]).length = 53 := by rw [List.length_append, nLen]; rfl
  dsimp only at c7
  rw [l7, app2] at c7
  obtain ⟨st8, k8, g8⟩ := rows_ok R.l2 R.n2 ((4096 * kind : Nat) : Int)
  rw [first_is R.r3 hkind] at g8
  have c8 := callLLI_o (P := prog) (f := 224) (x := .var 2) (z := .bin .Mult (.const (.int 4096)) (.var 5)) rfl (Es.cons (E.var (i := 2) (v := .ref 37) rfl) (Es.cons c7 (Es.one (mul rfl)))) (nIs ([oS, oC, oT, oF] ++ [CO.list ((slidS o).map .str)])) (j := 37) (k := 53) (by decide) (n37 _) (by decide) (strs_plain _)
    (nAt ([oS, oC, oT, oF] ++ [CO.list ((slidS o).map .str)]) 4) (by decide) (strs_plain _) k8 (by decide) g8 (strs_flat _)
  generalize hL : CO.list ((slidS o).map CV.str) = oL at *
  have l8 : (H ++ ([oS, oC, oT, oF] ++ [oL])).length = 54 := by rw [List.length_append, nLen]; rfl
  dsimp only at c8
  rw [l8, app2] at c8
  have hTs := slid_is R (kind := kind)
  generalize hG : CO.list (((tails (slidS o)).map (rowS kind)).map CV.str) = oG at *
  obtain ⟨st9, k9, g9⟩ := own_ok (kind := kind) R.l1 hkind
  rw [own_is R, hF] at g9
  have c9 := callLLI_o (P := prog) (f := 229) (x := .var 2) (y := .var 4) (z := .var 5) (st := lSt (some (.ref 36)) (some (.ref 37)) (some (.ref 38)) (some (.ref 50)) (some (.int kind)) (some (.ref 52)) (some (.ref 54)) none none (H ++ [oS, oC, oT, oF, oL, oG]) 35 60) rfl (Es.cons (E.var rfl) (Es.cons (E.var rfl) (Es.one (E.var rfl)))) (nIs _) (j := 37) (k := 50) (by decide) (n37 _) (by decide) (strs_plain _)
    (by have := nAt [oS, oC, oT, oF, oL, oG] 1; rw [← hC] at this ⊢; exact this) (by decide) (strs_plain _) k9 (by decide) g9 (by rw [← hF]; exact strs_flat _)
  have l9 : (H ++ [oS, oC, oT, oF, oL, oG]).length = 55 := by rw [List.length_append, nLen]; rfl
  dsimp only at c9
  rw [l9, app2] at c9
  have so1 := strs_ok (kind := kind) hch.1 hkind
  have so2 := strs_ok (kind := kind) hch.2 hkind
  have ne := E.cmp (P := prog) (op := .NotEq) (E.var (i := 6) (v := .ref 52) rfl) c9 (eq_lists (xs := (tails o).map (rowS kind)) (ys := (tails o).map (rowS kind)) (by have := nAt ([oS, oC, oT, oF, oL, oG] ++ [oF]) 3; rw [← hF] at this ⊢; exact this) (by have := nAt ([oS, oC, oT, oF, oL, oG] ++ [oF]) 6; rw [← hF] at this ⊢; exact this) so1 so1).2
  rw [decide_eq_true rfl, Bool.not_true] at ne
  have e10 := slice_ok (P := prog) (a := .var 6) (lo := none) (hi := none) (s := some (.neg (.const (.int 1)))) (l := .none) (u := .none) (t := .int (-1)) (l' := none) (u' := none) (t' := some (-1)) (xs := ((tails o).map (rowS kind)).map .str) (k := 52) (st := lSt (some (.ref 36)) (some (.ref 37)) (some (.ref 38)) (some (.ref 50)) (some (.int kind)) (some (.ref 52)) (some (.ref 54)) none none (H ++ ([oS, oC, oT, oF, oL, oG] ++ [oF])) 35 60)
    (E.var rfl) O.none O.none (O.some (E.neg E.const)) (by have := nAt ([oS, oC, oT, oF, oL, oG] ++ [oF]) 3; rw [← hF] at this ⊢; exact this) rfl rfl rfl (by simp) (by rw [List.length_map, List.length_map, tails_len R.l1]; decide)
  have hrev : pick (((tails o).map (rowS kind)).map CV.str) none none (some (-1)) = (((tails o).reverse).map (rowS kind)).map .str := by
    rw [pick10 (by rw [List.length_map, List.length_map, tails_len R.l1]), ← List.map_reverse, ← List.map_reverse]
  have l10 : (H ++ ([oS, oC, oT, oF, oL, oG] ++ [oF])).length = 56 := by rw [List.length_append, nLen]; rfl
  dsimp only at e10
  rw [hrev, l10, app2] at e10
  obtain ⟨stG, hG10⟩ := ex_comp (ts := (tails o).reverse) (fun t ht => tails_9 (List.mem_reverse.mp ht)) (by rw [List.length_reverse, tails_len R.l1]) (kind := kind) (k := 56) (v1 := some (.ref 36)) (v2 := some (.ref 37)) (v3 := some (.ref 38)) (v4 := some (.ref 50)) (v5 := some (.int kind)) (v6 := some (.ref 52)) (v7 := some (.ref 54)) (v8 := none) (nIs _) (by
    have := nAt ([oS, oC, oT, oF, oL, oG] ++ [oF] ++ [CO.list (((tails o).reverse.map (rowS kind)).map .str)]) 7
    exact this) (lo := (H ++ ([oS, oC, oT, oF, oL, oG] ++ [oF] ++ [CO.list (((tails o).reverse.map (rowS kind)).map .str)])).length)
  rw [← hTs] at hG10
  have hu : (((tails (slidS o)).map (rowS kind)).map CV.str).all (under (H ++ ([oS, oC, oT, oF, oL, oG] ++ [oF] ++ [CO.list (((tails o).reverse.map (rowS kind)).map .str)])).length) = true := by
    rw [List.all_eq_true]
    intro y hy
    obtain ⟨p, _, rfl⟩ := List.mem_map.mp hy
    rfl
  have e11 := E.comp (P := prog) (it := .plain (.slice (.var 6) none none (some (.neg (.const (.int 1)))))) (cs := []) (I.list e10 (by have := nAt ([oS, oC, oT, oF, oL, oG] ++ [oF] ++ [CO.list (((tails o).reverse.map (rowS kind)).map .str)]) 7; exact this)) hG10 hu (decide_eq_true (by rw [List.length_map, List.length_map, tails_len R.l2]; decide))
  have l11 : (H ++ ([oS, oC, oT, oF, oL, oG] ++ [oF] ++ [CO.list (((tails o).reverse.map (rowS kind)).map .str)])).length = 57 := by rw [List.length_append, nLen]; rfl
  dsimp only at e11
  rw [l11, app2] at e11
  have e12 := E.cmp (P := prog) (op := .Eq) (E.var (i := 7) (v := .ref 54) rfl) e11 (eq_lists (xs := (tails (slidS o)).map (rowS kind)) (ys := (tails (slidS o)).map (rowS kind)) (by have := nAt ([oS, oC, oT, oF, oL, oG] ++ [oF] ++ [CO.list (((tails o).reverse.map (rowS kind)).map .str)] ++ [oG]) 5; rw [← hG] at this ⊢; exact this)
    (by have := nAt ([oS, oC, oT, oF, oL, oG] ++ [oF] ++ [CO.list (((tails o).reverse.map (rowS kind)).map .str)] ++ [oG]) 8; rw [← hG] at this ⊢; exact this) so2 so2).1
  rw [decide_eq_true rfl] at e12
  exact ⟨_, B.cons (S.set (i := 1) e1 (by show 1 < 10; omega)) (B.cons s2 (B.cons (S.set (i := 4) c3 (by show 4 < 10; omega)) (B.cons (S.set (i := 5) e5 (by show 5 < 10; omega)) (B.cons (S.set (i := 6) c6 (by show 6 < 10; omega)) (B.cons (S.set (i := 7) c8 (by show 7 < 10; omega))
    (B.cons (S.ff (T.bool ne) B.nil) (B.stop (S.ret e12) (fun e => nomatch e))))))))⟩
end L2
end Mine
end

theorem Mine.L2.law_done (script : List Int) (h : script.length ≤ 63) : ∃ n st, (Mine.run Mine.L2.prog n).b Mine.L2.b_law (Mine.lawSt Mine.L2.f_law Mine.L2.heap0 script) = some (.ret (.bool true), st) :=
  let ⟨st, hb⟩ := Mine.L2.law_ok script h; let ⟨n, hn⟩ := hb.ex; ⟨n, st, hn⟩
theorem Mine.hd2.tw521047591097249419 : True := trivial
theorem Mine.hd2.tw10188748099632924578 : True := trivial
theorem Mine.hd2.tw18248147197437350449 : True := trivial
theorem Mine.hd2.tw87145970435450675 : True := trivial
theorem Mine.hd2.tw17434558074447078469 : True := trivial
theorem Mine.hd2.tw15423517189023148729 : True := trivial
theorem Mine.hd2.tw6815210391746928124 : True := trivial
theorem Mine.hd2.tw5542873789161101442 : True := trivial
theorem Mine.hd2.tw5203767396539817749 : True := trivial
theorem Mine.hd2.tw12896583090037188366 : True := trivial
theorem Mine.hd2.tw7973587357895806194 : True := trivial
theorem Mine.hd2.tw9749753934752944884 : True := trivial
theorem Mine.hd2.tw2132613098981253317 : True := trivial
theorem Mine.hd2.tw9931816716460518110 : True := trivial
theorem Mine.hd2.tw17130049829372506651 : True := trivial
theorem Mine.hd2.tw4208630012958610394 : True := trivial
theorem Mine.hd2.tw18141258880019740379 : True := trivial
theorem Mine.hd2.tw9119293857461180547 : True := trivial
theorem Mine.hd2.tw9514616225478430594 : True := trivial
theorem Mine.hd2.tw3154296723918424043 : True := trivial
theorem Mine.hd2.tw2331008334238325607 : True := trivial
theorem Mine.hd2.tw13818045471477145132 : True := trivial
theorem Mine.hd2.tw3486723893036766803 : True := trivial
theorem Mine.hd2.tw3574309194180151348 : True := trivial
theorem Mine.hd2.tw175109583173815259 : True := trivial
theorem Mine.hd2.tw17154464714986587404 : True := trivial
theorem Mine.hd2.tw8820833757433601248 : True := trivial
theorem Mine.hd2.tw7114538484913203130 : True := trivial
theorem Mine.hd2.tw16224822230647373906 : True := trivial
theorem Mine.hd2.tw7247576151377463746 : True := trivial
theorem Mine.hd2.tw6671275844181521660 : True := trivial
theorem Mine.hd2.tw4128767988726417249 : True := trivial
theorem Mine.hd2.tw1230165769213727595 : True := trivial
theorem Mine.hd2.tw14921811630059155960 : True := trivial
theorem Mine.hd2.tw6686078306103431042 : True := trivial
theorem Mine.hd2.tw10949718306181768204 : True := trivial
theorem Mine.hd2.tw11006854642847579341 : True := trivial
theorem Mine.hd2.tw9001575777495838784 : True := trivial
theorem Mine.hd2.tw8108540578436229937 : True := trivial
theorem Mine.hd2.tw6360799348238518018 : True := trivial
theorem Mine.hd2.tw1595972307316097103 : True := trivial
theorem Mine.hd2.tw5693816991731773788 : True := trivial
theorem Mine.hd2.tw5521143679866273701 : True := trivial
theorem Mine.hd2.tw2126447280774793394 : True := trivial
theorem Mine.hd2.tw13051000892100466696 : True := trivial
theorem Mine.hd2.tw12955129928793020960 : True := trivial
theorem Mine.hd2.tw7875540786070732152 : True := trivial
theorem Mine.hd2.tw3122970029111052557 : True := trivial
theorem Mine.hd2.tw8779171860619232142 : True := trivial
theorem Mine.hd2.tw15176672583364487161 : True := trivial
theorem Mine.hd2.tw9802295697211912694 : True := trivial
theorem Mine.hd2.tw4436973419971921206 : True := trivial
theorem Mine.hd2.tw15644325043196869005 : True := trivial
theorem Mine.hd2.tw10254093599156545313 : True := trivial
theorem Mine.hd2.tw1256580951684823992 : True := trivial
theorem Mine.hd2.tw2769112049811719188 : True := trivial
theorem Mine.hd2.tw12763764424270198577 : True := trivial
theorem Mine.hd2.tw16253987971922178028 : True := trivial
theorem Mine.hd2.tw7010516460443940295 : True := trivial
theorem Mine.hd2.tw17971443411627580558 : True := trivial
theorem Mine.hd2.tw5737332735241192480 : True := trivial
theorem Mine.hd2.tw14401057463952056089 : True := trivial
theorem Mine.hd2.tw18019478846407220815 : True := trivial
theorem Mine.hd2.tw15191579460534920666 : True := trivial
theorem Mine.hd2.tw6339312482876286893 : True := trivial
theorem Mine.hd2.tw767523161667480977 : True := trivial
theorem Mine.hd2.tw6335107781196790513 : True := trivial
theorem Mine.hd2.tw13810677373062009955 : True := trivial
theorem Mine.hd2.tw5760106387988716458 : True := trivial
theorem Mine.hd2.tw10533107972697636804 : True := trivial
theorem Mine.hd2.tw10850752361300743184 : True := trivial
theorem Mine.hd2.tw8642559067746812850 : True := trivial
theorem Mine.hd2.tw401881018233993473 : True := trivial
theorem Mine.hd2.tw14194125027541112797 : True := trivial
theorem Mine.hd2.tw14472753914779276088 : True := trivial
theorem Mine.hd2.tw5331086248898644504 : True := trivial
theorem Mine.hd2.tw16910883158370928493 : True := trivial
theorem Mine.hd2.tw16325446864816725333 : True := trivial
theorem Mine.hd2.tw14163117343867048754 : True := trivial
theorem Mine.hd2.tw18005265497134895539 : True := trivial
theorem Mine.hd2.tw3792150083703065982 : True := trivial
theorem Mine.hd2.tw10272945827294731763 : True := trivial
theorem Mine.hd2.tw16891520828879567593 : True := trivial
theorem Mine.hd2.tw11149403225895476569 : True := trivial
theorem Mine.hd2.tw10219850682025270129 : True := trivial
theorem Mine.hd2.tw9457552969213563531 : True := trivial
theorem Mine.hd2.tw17149979933336599690 : True := trivial
theorem Mine.hd2.tw2108963761862365243 : True := trivial
theorem Mine.hd2.tw4986522300587698104 : True := trivial
theorem Mine.hd2.tw11081427018123450144 : True := trivial
theorem Mine.hd2.tw6433835771088390112 : True := trivial
theorem Mine.hd2.tw11904639436655508693 : True := trivial
theorem Mine.hd2.tw10041127296896847916 : True := trivial
theorem Mine.hd2.tw10088504024309026110 : True := trivial
theorem Mine.hd2.tw8018312643286630970 : True := trivial
theorem Mine.hd2.tw622305421618594425 : True := trivial
theorem Mine.hd2.tw4080911265041974390 : True := trivial
theorem Mine.hd2.tw3565023085068357972 : True := trivial
theorem Mine.hd2.tw5894657894921262582 : True := trivial
theorem Mine.hd2.tw13619548112358091664 : True := trivial
theorem Mine.hd2.tw10628401907142525191 : True := trivial
theorem Mine.hd2.tw2168065497364000582 : True := trivial
theorem Mine.hd2.tw8883832819917700884 : True := trivial
theorem Mine.hd2.tw9250895064746319272 : True := trivial
theorem Mine.hd2.tw12887476875452498069 : True := trivial
theorem Mine.hd2.tw6727789753133388713 : True := trivial
theorem Mine.hd2.tw14821936039021965399 : True := trivial
theorem Mine.hd2.tw10666633089758425780 : True := trivial
theorem Mine.hd2.tw71533331695246426 : True := trivial
theorem Mine.hd2.tw11174228389967080086 : True := trivial
theorem Mine.hd2.tw710885876865845836 : True := trivial
theorem Mine.hd2.tw10191696753133945466 : True := trivial
theorem Mine.hd2.tw15352490148716938460 : True := trivial
theorem Mine.hd2.tw15717762271390065686 : True := trivial
theorem Mine.hd2.tw18376440725419151620 : True := trivial
theorem Mine.hd2.tw1909785642558140098 : True := trivial
theorem Mine.hd2.tw17377126412373271015 : True := trivial
theorem Mine.hd2.tw11387425415538479326 : True := trivial
theorem Mine.hd2.tw14396293657529361391 : True := trivial
theorem Mine.hd2.tw14686837934422546615 : True := trivial
theorem Mine.hd2.tw15862463550356848744 : True := trivial
theorem Mine.hd2.tw12800997404657656192 : True := trivial
theorem Mine.hd2.tw15231150651594951603 : True := trivial
theorem Mine.hd2.tw2012775963990416642 : True := trivial
theorem Mine.hd2.tw9025149566346154062 : True := trivial
theorem Mine.hd2.tw4346409662881557102 : True := trivial
theorem Mine.hd2.tw3786290236359867107 : True := trivial
theorem Mine.hd2.tw16715680138880398560 : True := trivial
theorem Mine.hd2.tw11970665417900345971 : True := trivial
theorem Mine.hd2.tw6541981660880656221 : True := trivial
theorem Mine.hd2.tw992009045571396808 : True := trivial
theorem Mine.hd2.tw2235074827555887178 : True := trivial
theorem Mine.hd2.tw4138052882804363771 : True := trivial
theorem Mine.hd2.tw4987636919662039959 : True := trivial
theorem Mine.hd2.tw4272443717928200365 : True := trivial
theorem Mine.hd2.tw6758173574556093506 : True := trivial
theorem Mine.hd2.tw16686898776239975625 : True := trivial
theorem Mine.hd2.tw9874975876783469125 : True := trivial
theorem Mine.hd2.tw16565451473518323588 : True := trivial
theorem Mine.hd2.tw4531429069147537543 : True := trivial
theorem Mine.hd2.tw3047423576518684788 : True := trivial
theorem Mine.hd2.tw17048861347830081487 : True := trivial
theorem Mine.hd2.tw3428949384659299139 : True := trivial
theorem Mine.hd2.tw13195917780136099402 : True := trivial
theorem Mine.hd2.tw11441457520234764932 : True := trivial
theorem Mine.hd2.tw13037696322458425203 : True := trivial
theorem Mine.hd2.tw1435591422723803084 : True := trivial
theorem Mine.hd2.tw10272772584803894524 : True := trivial
theorem Mine.hd2.tw12501706066654292219 : True := trivial
theorem Mine.hd2.tw7364602861681324575 : True := trivial
theorem Mine.hd2.tw17442912257199536875 : True := trivial
theorem Mine.hd2.tw8436607001355094974 : True := trivial
theorem Mine.hd2.tw4047575660166857361 : True := trivial
theorem Mine.hd2.tw10628173823571410726 : True := trivial
theorem Mine.hd2.tw2693518484206568101 : True := trivial
theorem Mine.hd2.tw8844539425579231078 : True := trivial
theorem Mine.hd2.tw4384171828855458497 : True := trivial
theorem Mine.hd2.tw18310461388912645519 : True := trivial
theorem Mine.hd2.tw5438800916439024024 : True := trivial
theorem Mine.hd2.tw4960970959582891546 : True := trivial
theorem Mine.hd2.tw5439220691504817211 : True := trivial
theorem Mine.hd2.tw11253710270555237016 : True := trivial
theorem Mine.hd2.tw1698310995043944543 : True := trivial
theorem Mine.hd2.tw4717654017078143654 : True := trivial
theorem Mine.hd2.tw16289564860063074514 : True := trivial
theorem Mine.hd2.tw14342148964104363333 : True := trivial
theorem Mine.hd2.tw14379076838107445011 : True := trivial
theorem Mine.hd2.tw13170595746660695564 : True := trivial
theorem Mine.hd2.tw6101760290850618121 : True := trivial
theorem Mine.hd2.tw5724285506335090026 : True := trivial
theorem Mine.hd2.tw1444440135474070075 : True := trivial
theorem Mine.hd2.tw12397336453873556141 : True := trivial
theorem Mine.hd2.tw12466773587236661786 : True := trivial
theorem Mine.hd2.tw8417349901890957011 : True := trivial
theorem Mine.hd2.tw2239638238429186564 : True := trivial
theorem Mine.hd2.tw16873221599792419055 : True := trivial
theorem Mine.hd2.tw14078174918965225603 : True := trivial
theorem Mine.hd2.tw3433207971968412175 : True := trivial
theorem Mine.hd2.tw16406783082193439448 : True := trivial
theorem Mine.hd2.tw2087716684499464581 : True := trivial
theorem Mine.hd2.tw12530866522774754677 : True := trivial
theorem Mine.hd2.tw8090823174340995975 : True := trivial
theorem Mine.hd2.tw17063568424206148002 : True := trivial
theorem Mine.hd2.tw11129188869610538314 : True := trivial
theorem Mine.hd2.tw17696548171621591989 : True := trivial
theorem Mine.hd2.tw3231304084998413415 : True := trivial
theorem Mine.hd2.tw13464015321323206389 : True := trivial
theorem Mine.hd2.tw11081256818881743468 : True := trivial
theorem Mine.hd2.tw15959769663615884937 : True := trivial
theorem Mine.hd2.tw5909614296626568523 : True := trivial
theorem Mine.hd2.tw9030083065773517369 : True := trivial
theorem Mine.hd2.tw11818442767299857642 : True := trivial
theorem Mine.hd2.tw5113211338630201030 : True := trivial
theorem Mine.hd2.tw17081775300665929400 : True := trivial
theorem Mine.hd2.tw11153258991729135738 : True := trivial
theorem Mine.hd2.tw17729420277734569955 : True := trivial
theorem Mine.hd2.tw5034723987699173382 : True := trivial
theorem Mine.hd2.tw10360535843966251840 : True := trivial
theorem Mine.hd2.tw10942033058075514817 : True := trivial
theorem Mine.hd2.tw5925304531832806970 : True := trivial
theorem Mine.hd2.tw1317804869592000110 : True := trivial
theorem Mine.hd2.tw10686981873337859931 : True := trivial
theorem Mine.hd2.tw8006859400109840664 : True := trivial
theorem Mine.hd2.tw1196108307587243228 : True := trivial
theorem Mine.hd2.tw15696999210736300618 : True := trivial
theorem Mine.hd2.tw13768875234911871128 : True := trivial
theorem Mine.hd2.tw16249154343376908211 : True := trivial
theorem Mine.hd2.tw6368226021125579375 : True := trivial
theorem Mine.hd2.tw8651155517412177002 : True := trivial
theorem Mine.hd2.tw262287036633283243 : True := trivial
theorem Mine.hd2.tw1386277679703014416 : True := trivial
theorem Mine.hd2.tw6355366842176592239 : True := trivial
theorem Mine.hd2.tw1903811608394549253 : True := trivial
theorem Mine.hd2.tw16457211209562306832 : True := trivial
theorem Mine.hd2.tw17142955953045606057 : True := trivial
theorem Mine.hd2.tw4877783700938437086 : True := trivial
theorem Mine.hd2.tw4222651890790745610 : True := trivial
theorem Mine.hd2.tw18121077527062402413 : True := trivial
theorem Mine.hd2.tw1154272638623218969 : True := trivial
theorem Mine.hd2.tw12751814530280855791 : True := trivial
theorem Mine.hd2.tw5150017175976815442 : True := trivial
theorem Mine.hd2.tw17889488521886093340 : True := trivial
theorem Mine.hd2.tw14703004565974578278 : True := trivial
theorem Mine.hd2.tw353303069719100757 : True := trivial
theorem Mine.hd2.tw18059104594531047267 : True := trivial
theorem Mine.hd2.tw332627713378957678 : True := trivial
theorem Mine.hd2.tw5626584828201687806 : True := trivial
theorem Mine.hd2.tw8077335385857423075 : True := trivial
theorem Mine.hd2.tw7290428043505870489 : True := trivial
namespace Mine
noncomputable def kFn {K : Params → Frag} {w : World} {h : Heap} (_ : (K w.params).In h) : World → Frag := fun w => K w.params
set_option Elab.async true in
set_option maxHeartbeats 8000000 in
theorem hd2 : PySem.Challenge.rw_om0128_02.Holds := by
  w_on; o_law; k_head; (case hw => w_witness2)
  intro w s₀ s₁ mg mb G Y fa o pm cd doc dV kV ho hd hcd hD hmg hg args vals as hpre hlay hrd hwl hlo
  have KX := kIn_of Y
  have F : L2.KF (kFn KX) := ⟨fun w => by kernel_rfl,
    fun w => by kernel_rfl,
    fun w => by kernel_rfl,
    fun w => by kernel_rfl,
    fun w => by kernel_rfl,
    fun w => by kernel_rfl,
    fun w => by kernel_rfl,
    fun w => by kernel_rfl,
    fun w => by kernel_rfl,
    fun w => by kernel_rfl,
    fun w => by kernel_rfl,
    fun w => by kernel_rfl,
    fun w => by kernel_rfl,
    fun w => by kernel_rfl,
    fun w => by kernel_rfl,
    fun w => by kernel_rfl,
    fun w => by kernel_rfl,
    fun w => by kernel_rfl,
    fun w => by kernel_rfl,
    fun w => by kernel_rfl,
    fun w => by kernel_rfl,
    fun w => by kernel_rfl,
    fun w => by kernel_rfl,
    fun w => by kernel_rfl,
    fun w => by kernel_rfl,
    fun w => by kernel_rfl,
    fun w => by kernel_rfl,
    fun w => by kernel_rfl,
    fun w => by kernel_rfl,
    fun w => by kernel_rfl,
    fun w => by kernel_rfl,
    fun w => by kernel_rfl,
    fun w => by kernel_rfl,
    fun w => by kernel_rfl,
    fun w => by kernel_rfl,
    fun w => by kernel_rfl,
    fun w => ⟨by kernel_rfl, by kernel_rfl, by kernel_rfl, by kernel_rfl⟩,
    fun w => ⟨by kernel_rfl, by kernel_rfl, by kernel_rfl, by kernel_rfl⟩,
    fun w => ⟨by kernel_rfl, by kernel_rfl, by kernel_rfl, by kernel_rfl, by kernel_rfl⟩,
    fun w => ⟨by kernel_rfl, by kernel_rfl, by kernel_rfl, by kernel_rfl, by kernel_rfl⟩,
    fun w => ⟨by kernel_rfl, by kernel_rfl, by kernel_rfl, by kernel_rfl, by kernel_rfl⟩,
    fun w => ⟨by kernel_rfl, by kernel_rfl, by kernel_rfl, by kernel_rfl, by kernel_rfl⟩,
    fun w => ⟨by kernel_rfl, by kernel_rfl, by kernel_rfl, by kernel_rfl, by kernel_rfl⟩,
    fun w => ⟨by kernel_rfl, by kernel_rfl, by kernel_rfl, by kernel_rfl, ⟨41, by kernel_rfl, fun od => (by kernel_rfl), by kernel_rfl, by kernel_rfl, by kernel_rfl⟩, by decide⟩,
    fun w => ⟨by kernel_rfl, by kernel_rfl, by kernel_rfl, by kernel_rfl, by kernel_rfl⟩,
    fun w => ⟨by kernel_rfl, by kernel_rfl, by kernel_rfl, by kernel_rfl, ⟨42, by kernel_rfl, fun od => (by kernel_rfl), by kernel_rfl, by kernel_rfl, by kernel_rfl⟩, by decide⟩,
    fun w => ⟨by kernel_rfl, by kernel_rfl, by kernel_rfl, by kernel_rfl, by kernel_rfl⟩,
    fun w => ⟨by kernel_rfl, by kernel_rfl, by kernel_rfl, by kernel_rfl, ⟨43, by kernel_rfl, fun od => (by kernel_rfl), by kernel_rfl, by kernel_rfl, by kernel_rfl⟩, by decide⟩,
    fun w => ⟨by kernel_rfl, by kernel_rfl, by kernel_rfl, by kernel_rfl, by kernel_rfl, by kernel_rfl, by kernel_rfl, by kernel_rfl, by decide +kernel, func_of (by kernel_rfl)⟩,
    fun w => ⟨by kernel_rfl, by kernel_rfl, by kernel_rfl, by kernel_rfl, by kernel_rfl, by kernel_rfl, by kernel_rfl, by kernel_rfl, by decide +kernel, func_of (by kernel_rfl)⟩,
    fun w => ⟨by kernel_rfl, by kernel_rfl, by kernel_rfl, by kernel_rfl, by kernel_rfl, by kernel_rfl, by kernel_rfl, by kernel_rfl, by decide +kernel, func_of (by kernel_rfl)⟩,
    fun w => ⟨by kernel_rfl, by kernel_rfl, by kernel_rfl, by kernel_rfl, by kernel_rfl, by kernel_rfl, by kernel_rfl, by kernel_rfl, by decide +kernel, func_of (by kernel_rfl)⟩,
    fun w => ⟨by kernel_rfl, by kernel_rfl, by kernel_rfl, by kernel_rfl, by kernel_rfl, by kernel_rfl, by kernel_rfl, by kernel_rfl, by decide +kernel, func_of (by kernel_rfl)⟩,
    fun w => ⟨by kernel_rfl, by kernel_rfl, by kernel_rfl, by kernel_rfl, by kernel_rfl, by kernel_rfl, by kernel_rfl, by kernel_rfl, by decide +kernel, func_of (by kernel_rfl)⟩,
    fun w => ⟨by kernel_rfl, by kernel_rfl, by kernel_rfl, by kernel_rfl, by kernel_rfl, by kernel_rfl, by kernel_rfl, by kernel_rfl, by decide +kernel, func_of (by kernel_rfl)⟩,
    fun w => ⟨by kernel_rfl, by kernel_rfl, by kernel_rfl, by kernel_rfl, by kernel_rfl, by kernel_rfl, by kernel_rfl, by kernel_rfl⟩,
    (fun w => vlen_cons fun u0 => vlen_cons fun u1 => vlen_nil (by kernel_rfl)),
    fun w => ⟨by kernel_rfl, by kernel_rfl, by kernel_rfl, by kernel_rfl, by kernel_rfl, by kernel_rfl, by kernel_rfl, by kernel_rfl⟩,
    (fun w u s X => kp_binds X (fun S => by kernel_rfl)),
    (fun w u v s X => kp_binds X (fun S => by kernel_rfl)),
    fun w => ⟨by kernel_rfl, by kernel_rfl, by kernel_rfl, by kernel_rfl, by kernel_rfl, by kernel_rfl, by kernel_rfl, by kernel_rfl⟩,
    (fun w => vlen_cons fun u0 => vlen_cons fun u1 => vlen_nil (by kernel_rfl)),
    fun w => ⟨by kernel_rfl, by kernel_rfl, by kernel_rfl, by kernel_rfl, by kernel_rfl, by kernel_rfl, by kernel_rfl, by kernel_rfl⟩,
    (fun w => vlen_cons fun u0 => vlen_cons fun u1 => vlen_nil (vtwo (by kernel_rfl) (fun v => by kernel_rfl) (fun v v2 r => by kernel_rfl))),
    fun w => ⟨by kernel_rfl, by kernel_rfl, by kernel_rfl, by kernel_rfl, by kernel_rfl, by kernel_rfl, by kernel_rfl, by kernel_rfl⟩,
    (fun w => vlen_cons fun u0 => vlen_nil (by kernel_rfl)),
    fun w => ⟨by kernel_rfl, by kernel_rfl, by kernel_rfl, by kernel_rfl, by kernel_rfl, by kernel_rfl, by kernel_rfl, by kernel_rfl⟩,
    (fun w => vlen_cons fun u0 => vlen_nil (by kernel_rfl)),
    fun w => ⟨by kernel_rfl, by kernel_rfl, by kernel_rfl, by kernel_rfl, by kernel_rfl, by kernel_rfl, by kernel_rfl, by kernel_rfl⟩,
    (fun w => vlen_cons fun u0 => vlen_nil (by kernel_rfl)),
    fun w => ⟨by kernel_rfl, by kernel_rfl, by kernel_rfl, by kernel_rfl, by kernel_rfl, by kernel_rfl, by kernel_rfl, by kernel_rfl⟩,
    (fun w => vlen_cons fun u0 => vlen_nil (vtwo (by kernel_rfl) (fun v => by kernel_rfl) (fun v v2 r => by kernel_rfl))),
    fun w => ⟨by kernel_rfl, by kernel_rfl, by kernel_rfl, by kernel_rfl, by kernel_rfl, by kernel_rfl, by kernel_rfl, by kernel_rfl⟩,
    (fun w => vlen_cons fun u0 => vlen_nil (by kernel_rfl)),
    fun w => ⟨by kernel_rfl, by kernel_rfl, by kernel_rfl, by kernel_rfl, by kernel_rfl, by kernel_rfl, by kernel_rfl, by kernel_rfl⟩,
    (fun w => vlen_cons fun u0 => vlen_nil (by kernel_rfl)),
    fun w => ⟨by kernel_rfl, by kernel_rfl, by kernel_rfl, by kernel_rfl, by kernel_rfl, by kernel_rfl, by kernel_rfl, by kernel_rfl⟩,
    (fun w => vlen_cons fun u0 => vlen_nil (by kernel_rfl)),
    fun w => ⟨by kernel_rfl, by kernel_rfl, by kernel_rfl, by kernel_rfl, by kernel_rfl, by kernel_rfl, by kernel_rfl, by kernel_rfl⟩,
    (fun w => vlen_cons fun u0 => vlen_nil (by kernel_rfl)),
    fun w => ⟨by kernel_rfl, by kernel_rfl, by kernel_rfl, by kernel_rfl, by kernel_rfl, by kernel_rfl, by kernel_rfl, by kernel_rfl⟩,
    (fun w => vlen_nil (by kernel_rfl)),
    fun w => ⟨by kernel_rfl, by kernel_rfl, by kernel_rfl, by kernel_rfl, by kernel_rfl, by kernel_rfl, by kernel_rfl, by kernel_rfl⟩,
    (fun w => vlen_cons fun u0 => vlen_cons fun u1 => vlen_cons fun u2 => vlen_nil (by kernel_rfl)),
    fun w => ⟨by kernel_rfl, by kernel_rfl, by kernel_rfl, by kernel_rfl, by kernel_rfl, by kernel_rfl, by kernel_rfl, by kernel_rfl⟩,
    (fun w => vlen_cons fun u0 => vlen_cons fun u1 => vlen_nil (by kernel_rfl)),
    fun w => ⟨by kernel_rfl, by kernel_rfl, by kernel_rfl, by kernel_rfl, by kernel_rfl, by kernel_rfl, by kernel_rfl, by kernel_rfl⟩,
    (fun w => vlen_cons fun u0 => vlen_cons fun u1 => vlen_cons fun u2 => vlen_nil (by kernel_rfl)),
    fun w => ⟨by kernel_rfl, by kernel_rfl, by kernel_rfl, by kernel_rfl, by kernel_rfl, by kernel_rfl, by kernel_rfl, by kernel_rfl⟩,
    (fun w => vlen_cons fun u0 => vlen_cons fun u1 => vlen_cons fun u2 => vlen_nil (by kernel_rfl)),
    fun w => ⟨by kernel_rfl, by kernel_rfl, by kernel_rfl, by kernel_rfl, by kernel_rfl, by kernel_rfl, by kernel_rfl, by kernel_rfl⟩,
    (fun w => vlen_cons fun u0 => vlen_nil (by kernel_rfl)),
    fun w => ⟨by kernel_rfl, by kernel_rfl, by kernel_rfl, by kernel_rfl, by kernel_rfl, by kernel_rfl, by kernel_rfl, by kernel_rfl⟩,
    (fun w => vlen_cons fun u0 => vlen_nil (by kernel_rfl)),
    fun w => by kernel_rfl,
    fun w => by kernel_rfl,
    fun w u => by kernel_rfl,
    fun w => by kernel_rfl,
    fun w => by kernel_rfl,
    fun w => by kernel_rfl⟩
  have hT := G.T
  have hf := mg_of KX hT.g (n := Str.ofString "law") (v := .ref 239) (F.law w)
  have hfa : (some (Value.ref fa)) = some (.ref 239) := hmg.symm.trans hf
  cases hfa
  have hrd2 := hrd
  have hlo2 := hlo
  wrow_args hpre hlay hrd hwl hlo
  all_goals (
    rename IntsAre _ _ => hI
    rename Heap.IsList _ _ _ => hL
    rename Well _ _ _ _ => hw1
    rename ¬ _ < _ => hlen)
  obtain ⟨hp, gens, drawn, toks, os⟩ := s₁
  have hex := list_exact hw1 hL
  obtain ⟨_, _, _, _, he, ha, r1, r2⟩ := readsAllW_cons_inv hrd2
  cases he
  rw [ha] at hlo2
  have hne := hlo2 _ (List.mem_append_left _ (by
    cases r1 with
    | list => exact List.mem_cons_self))
  refine enter_call (codeAny_mono ?_ fun _ _ g => GoodW.toG g)
  have hlaw := (fun {vs : List Value} {ns : List Int} (_ : IntsAre vs ns) (h : ns.length ≤ 63) => L2.law_done ns h) hI (by omega)
  refine L2.law_call F w KX hex hI (low_list KX hT.b (dict_of (F.d2 w)) (dict_of (F.d3 w)) hex rfl hne) ?_ hlaw ?_
  · obtain ⟨o, es, ep, h1, h2, h3, h4⟩ := hT.b
    exact ⟨o, es, ep, h1, h2, h3, fun x hx => (h4 x).trans (hT.builtins x hx)⟩
  · intro s' keep same
    exact ⟨.inl ⟨.bool true, .bool true, [], rfl, fun _ => rfl, .bool true, (by wrow_post), fun _ => ⟨.nil, fun a ha => (nomatch ha)⟩⟩, keep, same.os, same.gens.trans hg⟩
end Mine
theorem PySem.Challenge.cw_om0128_02_holds : PySem.Challenge.rw_om0128_02.Holds :=
  Mine.hd2
