import PyProof.Rows.All
import Wide.All
import OpenK.AllK
import Wide.FinOn
import OpenK.ZGo
import Lean
import PySem.Challenge.RW_jc0010_01
set_option Elab.async false
set_option genInjectivity false
set_option genSizeOf false
set_option maxRecDepth 100000
set_option linter.unusedVariables false
section
open PySem
set_option backward.match.sparseCases false
namespace Mine
inductive V where
 | none | bool (b : Bool) | int (i : Int) | str (s : Str)
 | tup (vs : List V) | list (vs : List V) | dict (kvs : List (Str × V))
 | ref (k : Nat) | inst (C : Addr) (k : Nat) | con (v : Value) | strm (k : Nat)
 | meth (f C : Addr) (k : Nat)
 | view (items : Bool) (kvs : List (Str × V)) | rng (lo hi st : Int)
 deriving Inhabited
section
variable {α : Type}
noncomputable def one : List α -> Option α
 | [a] => some a
 | _ => Option.none
noncomputable def two : List α -> Option (α × α)
 | [a, b] => some (a, b)
 | _ => Option.none
end
noncomputable def V.int? : V -> Option Int
 | .int i => some i
 | _ => Option.none
noncomputable def V.str? : V -> Option Str
 | .str i => some i
 | _ => Option.none
noncomputable def V.bool? : V -> Option Bool
 | .bool i => some i
 | _ => Option.none
noncomputable def V.tup? : V -> Option (List V)
 | .tup i => some i
 | _ => Option.none
noncomputable def V.list? : V -> Option (List V)
 | .list i => some i
 | _ => Option.none
noncomputable def V.dict? : V -> Option (List (Str × V))
 | .dict i => some i
 | _ => Option.none
noncomputable def V.ref? : V -> Option Nat
 | .ref i => some i
 | _ => Option.none
noncomputable def V.inst? : V -> Option (Addr × Nat)
 | .inst C i => some (C, i)
 | _ => Option.none
noncomputable def V.none? : V -> Option Unit
 | .none => some ()
 | _ => Option.none
mutual
noncomputable def V.beq : V -> V -> Bool
 | .none, b => b.none?.isSome
 | .bool a, b => b.bool? == some a
 | .int a, b => b.int? == some a
 | .str a, b => b.str? == some a
 | .tup a, b => match b.tup? with | some y => V.beqs a y | Option.none => false
 | .list a, b => match b.list? with | some y => V.beqs a y | Option.none => false
 | .dict a, b => match b.dict? with | some y => V.beqd a y | Option.none => false
 | .ref a, b => b.ref? == some a
 | .inst c a, b => b.inst? == some (c, a)
 | _, _ => false
noncomputable def V.beqs : List V -> List V -> Bool
 | [], y => y.isEmpty
 | a :: x, y => match y with | b :: y => V.beq a b && V.beqs x y | [] => false
noncomputable def V.beqd : List (Str × V) -> List (Str × V) -> Bool
 | [], y => y.isEmpty
 | (k, a) :: x, y => match y with | b :: y => k == b.1 && (V.beq a b.2 && V.beqd x y) | [] => false
end
mutual
noncomputable def V.simple : V -> Bool
 | .none | .bool _ | .int _ | .str _ => true
 | .tup vs | .list vs => V.simples vs
 | .dict kvs => V.simpled kvs
 | _ => false
noncomputable def V.simples : List V -> Bool
 | [] => true
 | v :: vs => V.simple v && V.simples vs
noncomputable def V.simpled : List (Str × V) -> Bool
 | [] => true
 | (_, v) :: vs => V.simple v && V.simpled vs
end
mutual
noncomputable def V.dep : V -> Nat -> Bool
 | .none, _ | .bool _, _ | .int _, _ | .str _, _ => true
 | .tup vs, n + 1 | .list vs, n + 1 => V.deps vs n
 | _, _ => false
noncomputable def V.deps : List V -> Nat -> Bool
 | [], _ => true
 | v :: vs, n => V.dep v n && V.deps vs n
end
mutual
noncomputable def V.depT : V -> Nat -> Bool
 | .none, _ | .bool _, _ | .int _, _ | .str _, _ => true
 | .tup vs, n + 1 => V.depTs vs n
 | .dict kvs, n + 1 => V.depTd kvs n
 | _, _ => false
noncomputable def V.depTs : List V -> Nat -> Bool
 | [], _ => true
 | v :: vs, n => V.depT v n && V.depTs vs n
noncomputable def V.depTd : List (Str × V) -> Nat -> Bool
 | [], _ => true
 | (_, v) :: vs, n => V.depT v n && V.depTd vs n
end
inductive O where
 | list (vs : List V) | dict (kvs : List (Str × V)) | cell (v : Option V) | citer (m : Option V) | tab (done : Bool)
 deriving Inhabited
inductive Fl where
 | next | cont | brk | ret (v : V)
 deriving Inhabited
noncomputable abbrev M (α : Type) := StateT (List O) Option α
structure Fr where
 scope : Scope
 cells : List (Str × Nat)
 loc : List (Str × Option V)
 base : Nat
 deriving Inhabited
noncomputable abbrev Chk := List O -> Bool
noncomputable def Fr.kind (fr : Fr) (x : Str) : Option NameKind := fr.scope.names.lookup x
section
variable {α : Type}
noncomputable def fail : M α := fun _ => none
noncomputable def guardM (b : Bool) : M Unit := fun σ => if b then some ((), σ) else none
noncomputable def look (k : Nat) : M O := fun σ => (σ[k]?).map fun o => (o, σ)
noncomputable def put (k : Nat) (o : O) : M Unit := fun σ => if k < σ.length then some ((), σ.set k o) else none
noncomputable def alloc (o : O) : M Nat := fun σ => some (σ.length, σ ++ [o])
noncomputable def putR (k : Nat) (o : O) (a : α) : M α := fun σ => if k < σ.length then some (a, σ.set k o) else none
noncomputable def liftO (x : Option α) : M α := fun σ => x.map fun a => (a, σ)
end
noncomputable def lim : Nat := 100000
noncomputable def big : Nat := 2 ^ 2000000
noncomputable def setL (x : Str) (v : V) : List (Str × Option V) -> List (Str × Option V)
 | [] => []
 | (y, u) :: r => if y = x then (y, some v) :: r else (y, u) :: setL x v r
noncomputable def dset (kvs : List (Str × V)) (x : Str) (v : V) : List (Str × V) :=
 if kvs.any (fun kv => decide (kv.1 = x)) then kvs.map (fun kv => if kv.1 = x then (kv.1, v) else kv) else kvs ++ [(x, v)]
noncomputable def chars (s : Str) : List Str := s.cps.toList.map fun c => ⟨#[c]⟩
noncomputable def ascii (s : Str) : Bool := s.cps.all (· < 128)
noncomputable def intV (v : V) : M Int := liftO v.int?
noncomputable def strV (v : V) : M Str := liftO v.str?
noncomputable def boolV (v : V) : M Bool := liftO v.bool?
noncomputable def tupOf (v : V) : M (List V) := liftO v.tup?
noncomputable def refV (v : V) : M Nat := liftO v.ref?
noncomputable def instV (v : V) : M (Addr × Nat) := liftO v.inst?
noncomputable def listV (v : V) : M (List V) := liftO v.list?
noncomputable def oList : O -> Option (List V)
 | .list vs => some vs
 | _ => Option.none
noncomputable def oDict : O -> Option (List (Str × V))
 | .dict vs => some vs
 | _ => Option.none
noncomputable def oCell : O -> Option (Option V)
 | .cell v => some v
 | _ => Option.none
noncomputable def oIter : O -> Option (Option V)
 | .citer v => some v
 | _ => Option.none
noncomputable def listAt (k : Nat) : M (List V) := do let o <- look k; liftO (oList o)
noncomputable def dictAt (k : Nat) : M (List (Str × V)) := do let o <- look k; liftO (oDict o)
noncomputable def listOf : V -> M (List V)
 | .list vs => pure vs
 | .ref k => listAt k
 | _ => fail
noncomputable def dictOf : V -> M (List (Str × V))
 | .dict kvs => pure kvs
 | .ref k => dictAt k
 | _ => fail
noncomputable def idx (n : Nat) (i : Int) : Option Nat :=
 if 0 <= i then (if i < n then some i.toNat else Option.none) else if 0 <= i + n then some (i + n).toNat else Option.none
noncomputable def attS (x : String) : Str := x
noncomputable def isQ (s : Str) : Bool := decide (s ∈ [attS "p", attS "q", attS "r", attS "s"])
noncomputable def strAdd (x y : Str) : M V := do guardM (decide (x.length + y.length <= lim) && !isQ (x ++ y)); pure (.str (x ++ y))
noncomputable def intOp (op : Operator) (x y : Int) : M V :=
 match op with
 | .Add => pure (.int (x + y))
 | .Sub => pure (.int (x - y))
 | .Mult => do guardM (decide (x.natAbs < big /\ y.natAbs < big)); pure (.int (x * y))
 | .FloorDiv => do guardM (decide (0 < y /\ y < 1000000000)); pure (.int (x / y))
 | .Mod => do guardM (decide (0 < y)); pure (.int (x % y))
 | .Pow => do guardM (decide (0 <= y /\ y <= 16 /\ x.natAbs < big)); pure (.int (x ^ y.toNat))
 | _ => fail
noncomputable def addL (a b : V) : M V := do
 let x <- listOf a; let y <- listOf b
 guardM (decide (x.length + y.length <= lim)); pure (.list (x ++ y))
noncomputable def addV (a b : V) : M V :=
 match a with
 | .str x => do let y <- strV b; strAdd x y
 | .tup x => do let y <- tupOf b; guardM (decide (x.length + y.length <= lim) && !x.isEmpty && !y.isEmpty); pure (.tup (x ++ y))
 | a => addL a b
noncomputable def mulV (a b : V) : M V := do
 let x <- listV a; let n <- intV b
 guardM (decide (x.length * n.toNat <= lim) && decide (0 <= n) && decide (n <= lim)); pure (.list (List.replicate n.toNat x).flatten)
noncomputable def binop (op : Operator) (a b : V) : M V :=
 match a.int? with
 | some x => do let y <- intV b; intOp op x y
 | Option.none =>
  match op with
  | .Add => addV a b
  | .Mult => mulV a b
  | _ => fail
noncomputable def augop (op : Operator) (a b : V) : M V :=
 match op with
 | .Add =>
  match a.int? with
  | some x => do let y <- intV b; pure (.int (x + y))
  | Option.none => do let x <- strV a; let y <- strV b; strAdd x y
 | _ => fail
noncomputable def veqL (x y : List V) : Option Bool :=
 if x.isEmpty || y.isEmpty then some (x.isEmpty && y.isEmpty)
 else if V.beqs x y && V.deps x 20 then some true else Option.none
noncomputable def veq (a b : V) : Option Bool :=
 match a with
 | .int x => b.int?.map fun y => decide (x = y)
 | .str x => b.str?.map fun y => decide (x = y)
 | .bool x => b.bool?.map fun y => decide (x = y)
 | .list x => b.list?.bind fun y => veqL x y
 | .dict x => b.dict?.bind fun y => if V.beqd x y && V.depTd x 20 then some true else Option.none
 | _ => Option.none
noncomputable def isStrV : V -> Bool
 | .str _ => true
 | _ => false
noncomputable def strIs (s : Str) : V -> Bool
 | .str t => decide (t = s)
 | _ => false
noncomputable def vin (s : Str) (vs : List V) : Option Bool := if vs.all isStrV then some (vs.any (strIs s)) else Option.none
noncomputable def inO (f : Bool -> Bool) (x : Str) : O -> M Bool
 | .dict kvs => pure (f (kvs.any fun kv => decide (kv.1 = x)))
 | .list vs => do let k <- liftO (vin x vs); pure (f k)
 | _ => fail
noncomputable def inV (f : Bool -> Bool) (x : Str) (b : V) : M Bool :=
 match b with
 | .str y => do guardM (decide (x.length = 1)); pure (f (decide (x ∈ chars y)))
 | .dict kvs => pure (f (kvs.any fun kv => decide (kv.1 = x)))
 | .list vs => do let k <- liftO (vin x vs); pure (f k)
 | .ref k => do let o <- look k; inO f x o
 | _ => fail
noncomputable def isIn (f : Bool -> Bool) (a b : V) : M Bool := do let x <- strV a; inV f x b
noncomputable def cmpInt (op : CmpOp) (x y : Int) : Bool :=
 match op with
 | .Lt => decide (x < y)
 | .LtE => decide (x <= y)
 | .Gt => decide (y < x)
 | _ => decide (y <= x)
noncomputable def cmpI (op : CmpOp) (a b : V) : M Bool := do let x <- intV a; let y <- intV b; pure (cmpInt op x y)
noncomputable def cmp (op : CmpOp) (a b : V) : M Bool :=
 match op with
 | .Lt => cmpI .Lt a b
 | .LtE => cmpI .LtE a b
 | .Gt => cmpI .Gt a b
 | .GtE => cmpI .GtE a b
 | .Is => do let x <- boolV a; let y <- boolV b; pure (decide (x = y))
 | .IsNot => do let x <- boolV a; let y <- boolV b; pure (!decide (x = y))
 | .Eq => liftO (veq a b)
 | .NotEq => do let r <- liftO (veq a b); pure (!r)
 | .In => isIn id a b
 | .NotIn => isIn not a b
noncomputable def truthL (v : V) : M Bool := do let vs <- listOf v; pure (!vs.isEmpty)
noncomputable def truth (v : V) : M Bool :=
 match v with
 | .bool b => pure b
 | v => truthL v
noncomputable def atV (vs : List V) (i : Int) : M V := do guardM (decide (vs.length <= lim)); let k <- liftO (idx vs.length i); liftO vs[k]?
noncomputable def pick (vs : List V) (i : Int) : Option V := if 0 <= i then vs[i.toNat]? else (idx vs.length i).bind fun k => vs[k]?
noncomputable def getL (o : V) (i : Int) : M V := do let vs <- listOf o; liftO (pick vs i)
noncomputable def getI (o : V) (i : Int) : M V :=
 match o with
 | .str s => do let k <- liftO (idx s.length i); guardM (decide (s.length <= lim)); liftO (((chars s)[k]?).map .str)
 | .tup vs => atV vs i
 | o => getL o i
noncomputable def getItem (o i : V) : M V :=
 match i with
 | .int i => getI o i
 | .str x => do let kvs <- dictOf o; liftO (kvs.lookup x)
 | _ => fail
noncomputable def every (st : Nat) : Nat -> List V -> List V
 | _, [] => []
 | 0, v :: vs => v :: every st (st - 1) vs
 | n + 1, _ :: vs => every st n vs
noncomputable def sliceOf (lo hi : Option Int) (st : Option Int) (vs : List V) : Option (List V) :=
 let l := lo.getD 0
 let h := hi.getD vs.length
 if 0 <= l /\ 0 <= h then
  match st with
  | Option.none => some ((vs.take h.toNat).drop l.toNat)
  | some s => if 0 < s /\ s <= 1000 /\ hi = Option.none then some (every s.toNat 0 (vs.drop l.toNat)) else Option.none
 else Option.none
noncomputable def sliceL (l h s : Option Int) (ov : V) : M V := do
 let vs <- listOf ov
 let r <- liftO (sliceOf l h s vs)
 pure (.list r)
noncomputable def sliceV (l h s : Option Int) (ov : V) : M V :=
 match ov with
 | .tup vs => do
  guardM (l.isNone && s.isNone)
  let b <- liftO h
  guardM (decide (0 <= b /\ b < vs.length /\ vs.length <= lim)); pure (.tup (vs.take b.toNat))
 | ov => sliceL l h s ov
noncomputable def wrOk (base k : Nat) (v : V) : M Unit := guardM (decide (base <= k) || v.simple)
noncomputable def setD (base k : Nat) (x : Str) (v : V) : M Unit := do
 let kvs <- dictAt k
 wrOk base k v; guardM (decide (kvs.length <= 1000)); putR k (.dict (dset kvs x v)) ()
noncomputable def setItem (base : Nat) (o i v : V) : M Unit := do
 let k <- refV o
 match i with
 | .str x => setD base k x v
 | .int i => do
  let vs <- listAt k
  wrOk base k v; guardM (decide (i < 0)); let j <- liftO (idx vs.length i); putR k (.list (vs.set j v)) ()
 | _ => fail
noncomputable def attList : List (Addr × Str) := [(38, attS "comp_select_list"), (101, attS "lineno"), (101, attS "instream"), (101, attS "whitespace"), (101, attS "pushback")]
noncomputable def attOk (C : Addr) (a : Str) : Bool := attList.any fun p => decide (p.1 = C) && decide (p.2 = a)
noncomputable def isCon : V -> Bool
 | .con _ => true
 | _ => false
noncomputable def getAtt (o : V) (a : Str) : M V := do
 let q <- instV o
 let kvs <- dictAt q.2
 match kvs.lookup a with
 | some v => do guardM (attOk q.1 a && !isCon v); pure v
 | Option.none => do guardM (decide (q.1 = 101) && decide (a = ("_read_char" : Str))); pure (.meth 84 q.1 q.2)
noncomputable def setAtt (base : Nat) (o : V) (a : Str) (v : V) : M Unit := do
 let q <- instV o
 let kvs <- dictAt q.2
 guardM (attOk q.1 a); wrOk base q.2 v; guardM (decide (kvs.length <= 1000)); putR q.2 (.dict (dset kvs a v)) ()
noncomputable def gl (x : String) (v : Value) : Str × Value := (x, v)
noncomputable def globs : List (Str × Value) := [
 gl "len" (.builtin "len"), gl "range" (.type "range"), gl "list" (.type "list"), gl "tuple" (.type "tuple"), gl "int" (.type "int"), gl "bool" (.type "bool"),
 gl "sorted" (.builtin "sorted"), gl "sum" (.builtin "sum"), gl "isinstance" (.builtin "isinstance"), gl "iter" (.builtin "iter"),
 gl "zip" (.type "zip"), gl "enumerate" (.type "enumerate"),
 gl "TupleComp" (.ref 38), gl "add_func_stats" (.ref 49), gl "add_callers" (.ref 56), gl "count_calls" (.ref 63), gl "_netrclex" (.ref 101),
 gl "le" (.ref 112), gl "ge" (.ref 119), gl "gt" (.ref 126), gl "sub" (.ref 133), gl "getitem" (.ref 140), gl "indexOf" (.ref 147), gl "setitem" (.ref 154),
 gl "_law_stream" (.ref 161), gl "_law_written" (.ref 166), gl "_law_order" (.ref 173), gl "_law_worths" (.ref 178), gl "_law_line" (.ref 183), gl "_law_turn" (.ref 188),
 gl "_law_wants" (.ref 193), gl "_law_turned" (.ref 198), gl "_law_deal" (.ref 203), gl "_law_share" (.ref 208), gl "law" (.ref 213)]
noncomputable def cellV (x : Str) (fr : Fr) : M V := do
 guardM (decide (x ≠ ("__classdict__" : Str)))
 let k <- liftO (fr.cells.lookup x)
 let o <- look k
 let c <- liftO (oCell o)
 liftO c
noncomputable def nameK (k : NameKind) (x : Str) (fr : Fr) : M V :=
 match k with
 | .local => liftO ((fr.loc.lookup x).join)
 | .cell => cellV x fr
 | .free => cellV x fr
 | .globalImplicit => liftO ((globs.lookup x).map .con)
 | _ => fail
noncomputable def name (x : Str) (fr : Fr) : M V := do let k <- liftO (fr.kind x); nameK k x fr
noncomputable def isMut (p : Pos) : Bool :=
 [(21, 18), (117, 12), (123, 13), (131, 11), (139, 12), (144, 11), (151, 11), (152, 13), (153, 13), (154, 11), (45, 24), (116, 11), (202, 13)].contains (p.line, p.col)
noncomputable def isKeep (p : Pos) : Bool := p.line == 203
noncomputable def newL (p : Pos) (vs : List V) : M V := if isMut p then do pure (.ref (<- alloc (.list vs))) else pure (.list vs)
noncomputable def newD (p : Pos) (kvs : List (Str × V)) : M V := if isMut p then do pure (.ref (<- alloc (.dict kvs))) else pure (.dict kvs)
noncomputable def chkOf (k : Nat) (vs : List V) : Chk := fun σ => match σ[k]? with | some (.list ws) => V.beqs ws vs | _ => false
noncomputable def noChk : Chk := fun _ => true
noncomputable def intsFrom (lo st : Int) : Nat -> List V
 | 0 => []
 | n + 1 => .int lo :: intsFrom (lo + st) st n
noncomputable def rngLen (lo hi st : Int) : Nat := (Builtin.Range.rangeSize lo hi st).toNat
noncomputable def rngOk (a b c : Int) : Bool :=
 Builtin.Range.rangeFitsLong a && Builtin.Range.rangeFitsLong b && Builtin.Range.rangeFitsLong c && Builtin.Range.rangeFitsLong (Builtin.Range.rangeSize a b c) &&
  (Builtin.Range.rangeSize a b c == 0 || if c > 0 then Builtin.Range.rangeFitsLong (b + (c - 1)) else Builtin.Range.rangeFitsLong (b + (c + 1)))
noncomputable def itView (it : Bool) (kvs : List (Str × V)) : M (List V × Chk) :=
 if it then do guardM (kvs.all fun kv => !isQ kv.1); pure (kvs.map fun kv => .tup [.str kv.1, kv.2], noChk) else pure (kvs.map (·.2), noChk)
noncomputable def itOf (v : V) : M (List V × Chk) :=
 match v with
 | .list vs => pure (vs, noChk)
 | .tup vs => pure (vs, noChk)
 | .str s => do guardM (ascii s); pure ((chars s).map .str, noChk)
 | .rng lo hi st => do guardM (rngOk lo hi st && decide (rngLen lo hi st <= lim)); pure (intsFrom lo st (rngLen lo hi st), noChk)
 | .view it kvs => itView it kvs
 | .ref k => do let vs <- listAt k; pure (vs, chkOf k vs)
 | _ => fail
noncomputable def isView : V -> Bool
 | .view .. => true
 | _ => false
noncomputable def itOfC (v : V) : M (List V × Chk) := do guardM (!isView v); itOf v
noncomputable def enumV : Int -> List V -> List V
 | _, [] => []
 | i, v :: vs => .tup [.int i, v] :: enumV (i + 1) vs
noncomputable def zipV : List V -> List V -> List V
 | a :: x, b :: y => .tup [a, b] :: zipV x y
 | _, _ => []
noncomputable def leS (a b : Str) : Bool := !decide (b.cps.toList < a.cps.toList)
noncomputable def sortS (ss : List Str) : List Str := ss.mergeSort leS
noncomputable def strsOf : List V -> Option (List Str)
 | [] => some []
 | .str s :: vs => (strsOf vs).map (s :: ·)
 | _ => Option.none
noncomputable def intsOf : List V -> Option (List Int)
 | [] => some []
 | .int i :: vs => (intsOf vs).map (i :: ·)
 | _ => Option.none
noncomputable def ltInts : List Int -> List Int -> Bool
 | a :: x, b :: y => if a = b then ltInts x y else decide (a < b)
 | _, _ => false
noncomputable def ltRow (p q : List Int × Int) : Bool := if p.1 = q.1 then decide (p.2 < q.2) else ltInts p.1 q.1
noncomputable def rowOf (v : V) : Option (List Int × Int) := v.tup?.bind fun vs => (two vs).bind fun p => p.1.list?.bind fun is => p.2.int?.bind fun k => (intsOf is).map fun ns => (ns, k)
noncomputable def rowsOf : List V -> Option (List (List Int × Int))
 | [] => some []
 | v :: vs => (rowOf v).bind fun r => (rowsOf vs).map (r :: ·)
noncomputable def insIdx (b : Nat -> Nat -> Bool) (x : Nat) : List Nat -> List Nat
 | [] => [x]
 | y :: ys => if b x y then x :: y :: ys else y :: insIdx b x ys
noncomputable def sortIdx (b : Nat -> Nat -> Bool) : List Nat -> List Nat -> List Nat
 | [], acc => acc
 | x :: xs, acc => sortIdx b xs (insIdx b x acc)
noncomputable def rowLt (rows : List (List Int × Int)) (i j : Nat) : Bool := ltRow (rows.getD i ([], 0)) (rows.getD j ([], 0))
noncomputable def sumV : List V -> Option Int
 | [] => some 0
 | .int i :: vs => (sumV vs).map (i + ·)
 | _ => Option.none
noncomputable def joinV : List V -> Option Str
 | [] => some Str.empty
 | .str s :: vs => (joinV vs).map (s ++ ·)
 | _ => Option.none
noncomputable def notSet : Expr -> Bool
 | .Set .. => false
 | _ => true
noncomputable def notCall0 : Expr -> Bool
 | .Call (.Name _ _) [] [] _ => false
 | _ => true
noncomputable def isTy (n : String) : V -> Bool
 | .con (.type m) => m == n
 | _ => false
noncomputable def isCallee : V -> Bool
 | .con c => globs.any fun p => p.2 == c
 | _ => false
structure Lv where
 ev : Expr -> Fr -> M V
 tr : Expr -> Fr -> M Bool
 exs : List Stmt -> Fr -> M (Fl × Fr)
 call : Nat -> V -> List V -> M V
structure FnI where
 ps : List Str
 body : List Stmt
 scope : Scope
 keep : Bool
noncomputable def FnI.of (keep : Bool) : Stmt -> Option FnI
 | .FunctionDef _ args body _ _ _ scope _ _ _ => some ⟨args.args.map (·.arg), body, scope, keep⟩
 | _ => Option.none
noncomputable def topS (i : Nat) : Option Stmt := PySem.Challenge.pw_jc0010_01.main.body[i]?
noncomputable def inCls (i j : Nat) : Option Stmt := match topS i with | some (.ClassDef _ _ _ body ..) => body[j]? | _ => Option.none
noncomputable def inDef (i j : Nat) : Option Stmt := match topS i with | some (.FunctionDef _ _ body ..) => body[j]? | _ => Option.none
noncomputable def fnTab : List (Addr × Option FnI) := [
 (28, (inCls 1 0).bind (FnI.of true)), (35, (inCls 1 1).bind (FnI.of false)), (49, (topS 2).bind (FnI.of false)), (56, (topS 3).bind (FnI.of false)), (63, (topS 4).bind (FnI.of false)),
 (77, (inCls 6 0).bind (FnI.of true)), (84, (inCls 6 1).bind (FnI.of false)), (91, (inCls 6 2).bind (FnI.of false)), (98, (inCls 6 3).bind (FnI.of false)),
 (112, (topS 8).bind (FnI.of false)), (119, (topS 9).bind (FnI.of false)), (126, (topS 10).bind (FnI.of false)), (133, (topS 11).bind (FnI.of false)), (140, (topS 12).bind (FnI.of false)),
 (147, (topS 13).bind (FnI.of false)), (154, (topS 14).bind (FnI.of false)), (161, (topS 16).bind (FnI.of false)), (166, (topS 17).bind (FnI.of false)), (173, (topS 18).bind (FnI.of false)),
 (178, (topS 19).bind (FnI.of false)), (183, (topS 20).bind (FnI.of false)), (188, (topS 21).bind (FnI.of false)), (193, (topS 22).bind (FnI.of false)), (198, (topS 23).bind (FnI.of false)),
 (203, (topS 24).bind (FnI.of false)), (208, (topS 25).bind (FnI.of false)), (213, (topS 26).bind (FnI.of false))]
noncomputable def fnAt (f : Addr) : Option FnI := (fnTab.lookup f).bind id
noncomputable def strmFn : Option FnI := (inDef 16 1).bind (FnI.of false)
noncomputable def methTab : List ((Addr × Str) × Addr) := [((38, attS "compare"), 35), ((101, attS "get_token"), 91), ((101, attS "push_token"), 98), ((101, attS "_read_char"), 84)]
noncomputable def methOf (C : Addr) (x : Str) : Option Addr := methTab.lookup (C, x)
noncomputable def initTab : List (Addr × Addr) := [(38, 28), (101, 77)]
noncomputable def initOf (C : Addr) : Option Addr := initTab.lookup C
noncomputable def mkCells : List (Str × NameKind) -> List (Str × Nat) -> M (List (Str × Nat))
 | [], acc => pure acc
 | (x, k) :: r, acc => if k == .cell then do let a <- alloc (.cell Option.none); mkCells r ((x, a) :: acc) else mkCells r acc
noncomputable def locals : List (Str × NameKind) -> List (Str × Option V)
 | [] => []
 | (x, k) :: r => if k == .local then (x, Option.none) :: locals r else locals r
noncomputable def plainO : O -> Option V
 | .list vs => if V.simples vs then some (.list vs) else Option.none
 | .dict kvs => if V.simpled kvs then some (.dict kvs) else Option.none
 | _ => Option.none
noncomputable def frz1 (b : Nat) (σ : List O) (v : V) : Option V :=
 if v.simple then some v else v.ref?.bind fun k => if b <= k then (σ[k]?).bind plainO else Option.none
noncomputable def frz1s (b : Nat) (σ : List O) : List V -> Option (List V)
 | [] => some []
 | v :: vs => (frz1 b σ v).bind fun a => (frz1s b σ vs).map (a :: ·)
noncomputable def frz (b : Nat) (σ : List O) (v : V) : Option V :=
 if v.simple then some v else
 match v.tup? with
 | some vs => (frz1s b σ vs).map .tup
 | Option.none => frz1 b σ v
noncomputable def asgCell (x : Str) (v : V) (fr : Fr) : M Fr := do
 let k <- liftO (fr.cells.lookup x)
 guardM (decide (fr.base <= k))
 let o <- look k
 let _ <- liftO (oCell o)
 putR k (.cell (some v)) fr
noncomputable def asgK (k : NameKind) (x : Str) (v : V) (fr : Fr) : M Fr :=
 match k with
 | .local => pure { fr with loc := setL x v fr.loc }
 | .cell => asgCell x v fr
 | _ => fail
noncomputable def asg1 (x : Str) (v : V) (fr : Fr) : M Fr := do let k <- liftO (fr.kind x); asgK k x v fr
noncomputable def asgParams : List Str -> List V -> Fr -> M Fr
 | [], vs, fr => do guardM vs.isEmpty; pure fr
 | x :: xs, vs, fr =>
  match vs with
  | v :: vs => do let fr' <- asg1 x v fr; asgParams xs vs fr'
  | [] => fail
noncomputable def flV : Fl -> V
 | .ret v => v
 | _ => .none
noncomputable def endFn (keep : Bool) (σ : List O) (v : V) : M V := fun σ₂ =>
 if keep then (if v.simple then some (v, σ₂) else Option.none)
 else (frz σ.length σ₂ v).map fun v => (v, σ₂.take σ.length)
noncomputable def callFn (L : Lv) (base : Nat) (f : FnI) (cl : List (Str × Nat)) (args : List V) : M V := fun σ =>
 (do
  let cs <- mkCells f.scope.names cl
  let fr <- asgParams f.ps args ⟨f.scope, cs, locals f.scope.names, if f.keep then base else σ.length⟩
  let r <- L.exs f.body fr
  endFn f.keep σ (flV r.1) : M V) σ
inductive Mt where
 | fn (f : Addr) | strm | bi (id : String)
noncomputable def strTab : List (Str × String) := [(attS "join", "str.join"), (attS "count", "str.count")]
noncomputable def listTab : List (Str × String) := [(attS "append", "list.append"), (attS "pop", "list.pop"), (attS "insert", "list.insert"), (attS "extend", "list.extend"), (attS "count", "list.count")]
noncomputable def dictTab : List (Str × String) := [(attS "get", "dict.get"), (attS "items", "dict.items"), (attS "values", "dict.values")]
noncomputable def tabM (t : List (Str × String)) (m : Str) : Option Mt := (t.lookup m).map .bi
noncomputable def strMeth (m : Str) : Option Mt := tabM strTab m
noncomputable def listMeth (m : Str) : Option Mt := tabM listTab m
noncomputable def dictMeth (m : Str) : Option Mt := tabM dictTab m
noncomputable def oMeth (m : Str) : O -> Option Mt
 | .list _ => listMeth m
 | .dict _ => dictMeth m
 | _ => Option.none
noncomputable def methTag (o : V) (m : Str) : M Mt :=
 match o with
 | .inst C k => do let kvs <- dictAt k; guardM (kvs.lookup m).isNone; let f <- liftO (methOf C m); pure (.fn f)
 | .strm _ => do guardM (decide (m = ("read" : Str))); pure .strm
 | .str _ => liftO (strMeth m)
 | .dict _ => liftO (dictMeth m)
 | .list _ => liftO (listMeth m)
 | .ref k => do let o <- look k; liftO (oMeth m o)
 | _ => fail
noncomputable def bmAppend (base : Nat) (o : V) (args : List V) : M V := do
 let k <- refV o; let v <- liftO (one args); let vs <- listAt k
 wrOk base k v; guardM (decide (vs.length < lim)); putR k (.list (vs ++ [v])) .none
noncomputable def bmPop (o : V) (args : List V) : M V := do
 let k <- refV o; let v <- liftO (one args); let i <- intV v; let vs <- listAt k
 guardM (decide (0 <= i)); let v <- liftO vs[i.toNat]?; putR k (.list (vs.eraseIdx i.toNat)) v
noncomputable def bmInsert (base : Nat) (o : V) (args : List V) : M V := do
 let k <- refV o; let q <- liftO (two args); let i <- intV q.1; let vs <- listAt k
 guardM (decide (0 <= i /\ i <= vs.length /\ vs.length < lim)); wrOk base k q.2
 putR k (.list (vs.take i.toNat ++ q.2 :: vs.drop i.toNat)) .none
noncomputable def bmExtend (base : Nat) (o : V) (args : List V) : M V := do
 let k <- refV o; let v <- liftO (one args); let ws <- listV v; let vs <- listAt k
 wrOk base k (.list ws); guardM (decide (vs.length + ws.length <= lim)); putR k (.list (vs ++ ws)) .none
noncomputable def bmCount (o : V) (args : List V) : M V := do
 let vs <- listV o; let v <- liftO (one args); let x <- strV v
 guardM (vs.all isStrV); pure (.int (vs.countP (strIs x)))
noncomputable def bmJoin (o : V) (args : List V) : M V := do
 let s <- strV o; let v <- liftO (one args); let vs <- listV v
 guardM (decide (s = Str.empty)); let r <- liftO (joinV vs); guardM (decide (vs.length <= lim /\ r.length <= lim) && !isQ r); pure (.str r)
noncomputable def bmStrCount (o : V) (args : List V) : M V := do
 let s <- strV o; let v <- liftO (one args); let x <- strV v
 guardM (decide (x.length = 1 /\ s.length <= lim)); pure (.int ((chars s).count x))
noncomputable def bmGet (o : V) (args : List V) : M V := do
 let v <- liftO (one args); let x <- strV v; let kvs <- dictOf o
 pure ((kvs.lookup x).getD .none)
noncomputable def bmView (b : Bool) (o : V) (args : List V) : M V := do
 let kvs <- liftO o.dict?
 guardM args.isEmpty; pure (.view b kvs)
noncomputable def callBm (base : Nat) (id : String) (o : V) (args : List V) : M V :=
 if id = "list.append" then bmAppend base o args
 else if id = "list.pop" then bmPop o args
 else if id = "list.insert" then bmInsert base o args
 else if id = "list.extend" then bmExtend base o args
 else if id = "list.count" then bmCount o args
 else if id = "str.join" then bmJoin o args
 else if id = "str.count" then bmStrCount o args
 else if id = "dict.get" then bmGet o args
 else if id = "dict.items" then bmView true o args
 else if id = "dict.values" then bmView false o args
 else fail
noncomputable def strmC (L : Lv) (base : Nat) (o : V) (args : List V) : M V :=
 match o with
 | .strm c => do let f <- liftO strmFn; callFn L base f [("signs", c)] args
 | _ => fail
noncomputable def callM (L : Lv) (base : Nat) (t : Mt) (o : V) (args : List V) : M V :=
 match t with
 | .fn f => L.call base (.con (.ref f)) (o :: args)
 | .bi id => callBm base id o args
 | .strm => strmC L base o args
noncomputable def biLen (args : List V) : M V := do
 let v <- liftO (one args)
 match v.str? with
 | some s => do guardM (decide (s.length <= lim)); pure (.int s.length)
 | Option.none => do let vs <- listOf v; pure (.int vs.length)
noncomputable def rowsSort (vs : List V) : M V := do
 let rows <- liftO (rowsOf vs)
 guardM (decide (rows.map (·.2) = [0, 1, 2, 3, 4, 5]) && rows.all fun r => r.1.length == (rows.headD ([], 0)).1.length)
 pure (.list ((sortIdx (rowLt rows) [0, 1, 2, 3, 4, 5] []).map fun i => vs.getD i .none))
noncomputable def biSorted (args : List V) : M V := do
 let v <- liftO (one args)
 let vs <- listV v
 match strsOf vs with
 | some ss => do guardM (decide (vs.length <= 60) && ss.all fun s => !isQ s); pure (.list ((sortS ss).map .str))
 | Option.none => rowsSort vs
noncomputable def biSum (args : List V) : M V := do
 let v <- liftO (one args)
 let vs <- listV v
 let r <- liftO (sumV vs); pure (.int r)
noncomputable def biIsi (args : List V) : M V := do
 let q <- liftO (two args)
 let _ <- intV q.1
 guardM (isTy "tuple" q.2 || isTy "bool" q.2); pure (.bool false)
noncomputable def isMeth : V -> Bool
 | .meth .. => true
 | _ => false
noncomputable def biIter (args : List V) : M V := do
 let q <- liftO (two args)
 let s <- strV q.2
 guardM (isMeth q.1 && decide (s = Str.empty)); let j <- alloc (.citer (some q.1)); pure (.ref j)
noncomputable def callBi (id : String) (args : List V) : M V :=
 if id = "len" then biLen args
 else if id = "sorted" then biSorted args
 else if id = "sum" then biSum args
 else if id = "isinstance" then biIsi args
 else if id = "iter" then biIter args
 else fail
noncomputable def rng3 (q : V × V) (c : V) : M V := do
 let a <- intV q.1; let b <- intV q.2; let c <- intV c
 guardM (decide (c = -1)); pure (.rng a b c)
noncomputable def rng2 (q : V × V) : M V := do let a <- intV q.1; let b <- intV q.2; pure (.rng a b 1)
noncomputable def tyRange (args : List V) : M V :=
 match args with
 | [] => fail
 | a :: r =>
  match r with
  | [] => do let n <- intV a; pure (.rng 0 n 1)
  | b :: r =>
   match r with
   | [] => rng2 (a, b)
   | c :: r => do guardM r.isEmpty; rng3 (a, b) c
noncomputable def listL (v : V) : M V := do let vs <- listOf v; pure (.list vs)
noncomputable def listVw (it : Bool) (kvs : List (Str × V)) : M V := do
 guardM (it && (decide (kvs.length <= lim) && kvs.all fun kv => !isQ kv.1)); pure (.list (kvs.map fun kv => .tup [.str kv.1, kv.2]))
noncomputable def lstV (v : V) : M V :=
 match v with
 | .view it kvs => listVw it kvs
 | v => listL v
noncomputable def tyList (args : List V) : M V := do let v <- liftO (one args); lstV v
noncomputable def tyTuple (args : List V) : M V := do
 let v <- liftO (one args)
 let vs <- listV v
 guardM (decide (vs.length <= 16000)); pure (.tup vs)
noncomputable def tyInt (args : List V) : M V := do
 let v <- liftO (one args)
 let b <- boolV v
 pure (.int (if b then 1 else 0))
noncomputable def callTy (T : String) (args : List V) : M V :=
 if T = "range" then tyRange args
 else if T = "list" then tyList args
 else if T = "tuple" then tyTuple args
 else if T = "int" then tyInt args
 else fail
noncomputable def isTab : O -> Bool
 | .tab _ => true
 | _ => false
noncomputable def mkStrm (args : List V) : M V := do
 let v <- liftO (one args)
 let s <- strV v
 guardM (decide (s.length <= lim) && (chars s).all fun c => !isQ c)
 let c <- alloc (.cell Option.none)
 let k <- alloc (.list ((chars s).map .str))
 put c (.cell (some (.ref k)))
 let o <- look 0
 guardM (isTab o)
 putR 0 (.tab true) (.strm c)
noncomputable def mkInst (L : Lv) (base : Nat) (a i : Addr) (args : List V) : M V := do
 let k <- alloc (.dict [])
 let fi <- liftO (fnAt i)
 let r <- callFn L base fi [] (.inst a k :: args)
 let _ <- liftO r.none?
 pure (.inst a k)
noncomputable def callRef (L : Lv) (base : Nat) (a : Addr) (args : List V) : M V :=
 match initOf a with
 | some i => mkInst L base a i args
 | Option.none => if a = 161 then mkStrm args else do let fi <- liftO (fnAt a); callFn L base fi [] args
noncomputable def callC (L : Lv) (base : Nat) (c : Value) (args : List V) : M V :=
 match c with
 | .ref a => callRef L base a args
 | .builtin id => callBi id args
 | .type T => callTy T args
 | _ => fail
noncomputable def callV (L : Lv) (base : Nat) (f : V) (args : List V) : M V :=
 match f with
 | .con c => callC L base c args
 | _ => fail
noncomputable def isStarred : Expr -> Bool
 | .Starred .. => true
 | _ => false
noncomputable def nameE : Expr -> Option Str
 | .Name x _ => some x
 | _ => Option.none
section
variable (L : Lv)
noncomputable def evs : List Expr -> Fr -> M (List V)
 | [], _ => pure []
 | e :: es, fr => do guardM (!isStarred e); let v <- L.ev e fr; let vs <- evs es fr; pure (v :: vs)
noncomputable def asgNames : List Expr -> List V -> Fr -> M Fr
 | [], vs, fr => do guardM vs.isEmpty; pure fr
 | t :: ts, vs, fr =>
  match vs with
  | v :: vs => do let x <- liftO (nameE t); let fr' <- asg1 x v fr; asgNames ts vs fr'
  | [] => fail
noncomputable def asg (t : Expr) (v : V) (fr : Fr) : M Fr :=
 match t with
 | .Name x _ => asg1 x v fr
 | .Tuple ts _ _ => do let vs <- tupOf v; asgNames ts vs fr
 | .Subscript o i _ => do let ov <- L.ev o fr; let iv <- L.ev i fr; setItem fr.base ov iv v; pure fr
 | .Attribute o a _ => do let ov <- L.ev o fr; setAtt fr.base ov a v; pure fr
 | _ => fail
noncomputable def isFree : Option (Option V) -> Bool
 | some o => o.isNone
 | Option.none => false
noncomputable def freshName (fr : Fr) (t : Expr) : Bool :=
 match nameE t with
 | some x => fr.kind x != some .local || isFree (fr.loc.lookup x)
 | Option.none => false
noncomputable def freshNames (ts : List Expr) (fr : Fr) : Bool := ts.all (freshName fr)
noncomputable def asgC (t : Expr) (v : V) (fr : Fr) : M Fr :=
 match t with
 | .Name x _ => do guardM (freshName fr t); asg1 x v fr
 | .Tuple ts _ _ => do guardM (freshNames ts fr); let vs <- tupOf v; asgNames ts vs fr
 | _ => fail
noncomputable def isNamed (x : String) : Expr -> Bool
 | .Name f _ => decide (f = (x : Str))
 | _ => false
noncomputable def isTupE : Expr -> Bool
 | .Tuple .. => true
 | _ => false
noncomputable def isTgt : Expr -> Bool
 | .Tuple .. => true
 | .Name .. => true
 | .Subscript .. => true
 | .Attribute .. => true
 | _ => false
noncomputable def isNm : Expr -> Bool
 | .Name .. => true
 | _ => false
noncomputable def isItems : V -> Bool
 | .view it _ => it
 | _ => false
noncomputable def callBy (x : String) (n : Nat) : Expr -> Option (Expr × List Expr)
 | .Call f as ks _ => if isNamed x f && (as.length == n && ks.isEmpty) then some (f, as) else Option.none
 | _ => Option.none
noncomputable def enumSrc (v : V) : M (List V × Chk) :=
 match v.list? with
 | some vs => pure (enumV 0 vs, noChk)
 | Option.none => do let k <- refV v; let vs <- listAt k; pure (enumV 0 vs, chkOf k vs)
noncomputable def iterSrc (t e : Expr) (fr : Fr) : M (List V × Chk) :=
 match callBy "enumerate" 1 e with
 | some q => do
  guardM (isTupE t)
  let fv <- L.ev q.1 fr
  guardM (isCallee fv && isTy "enumerate" fv)
  let vs <- evs L q.2 fr
  let v <- liftO (one vs)
  enumSrc v
 | Option.none => do let v <- L.ev e fr; guardM (!isItems v || isTupE t); itOf v
noncomputable def iterSrcC (t e : Expr) (fr : Fr) : M (List V × Chk) :=
 match callBy "zip" 2 e with
 | some q => do
  guardM (isTupE t)
  let fv <- L.ev q.1 fr
  guardM (isCallee fv && isTy "zip" fv)
  let vs <- evs L q.2 fr
  let p <- liftO (two vs)
  let x <- listV p.1; let y <- listV p.2
  pure (zipV x y, noChk)
 | Option.none => do let v <- L.ev e fr; itOfC v
noncomputable def tests : List Expr -> Fr -> M Bool
 | [], _ => pure true
 | e :: es, fr => do if <- L.tr e fr then tests es fr else pure false
noncomputable def turns {α : Type} (chk : Chk) (f : V -> M (List α)) : List V -> M (List α)
 | [] => fun σ => if chk σ then some ([], σ) else Option.none
 | v :: vs => fun σ => if chk σ then (do let a <- f v; let b <- turns chk f vs; pure (a ++ b) : M (List α)) σ else Option.none
noncomputable def turn1 {α : Type} (g : Comprehension) (fr : Fr) (inner : Fr -> M (List α)) (v : V) : M (List α) := do
 let fr' <- asgC g.target v fr
 if <- tests L g.ifs fr' then inner fr' else pure []
noncomputable def compG {α : Type} (emit : Fr -> M (List α)) : Comprehension -> List Comprehension -> List V × Chk -> Fr -> M (List α)
 | g, [], it, fr => turns it.2 (turn1 L g fr emit) it.1
 | g, g' :: gs, it, fr => do
   guardM (notSet g'.iter)
   turns it.2 (turn1 L g fr fun fr' => do let it' <- iterSrcC L g'.target g'.iter fr'; compG emit g' gs it' fr') it.1
noncomputable def relab (sc : Scope) (fr : Fr) : Scope :=
 { sc with names := sc.names.map fun (n, k) => if (k == .free && fr.scope.kind == .function && fr.kind n == some .cell) then (n, .cell) else (n, k) }
noncomputable def takenC (fr : Fr) : List (Str × NameKind) -> List (Str × Nat) -> Option (List (Str × Nat))
 | [], acc => some acc
 | (x, k) :: r, acc => if k == .free then (fr.cells.lookup x).bind fun a => takenC fr r ((x, a) :: acc) else takenC fr r acc
noncomputable def endC {α : Type} (keep : Bool) (ok : List α -> Bool) (σ : List O) (vs : List α) : M (List α) := fun σ₂ =>
 if vs.length <= lim then
  if keep then some (vs, σ₂) else if ok vs then some (vs, σ₂.take σ.length) else Option.none
 else Option.none
noncomputable def compIn {α : Type} (keep : Bool) (ok : List α -> Bool) (emit : Fr -> M (List α)) (g : Comprehension) (gs : List Comprehension) (it : List V × Chk) (sc : Scope) (fr : Fr) : M (List α) := fun σ =>
 (do
  let cl <- liftO (takenC fr sc.names [])
  let cs <- mkCells sc.names cl
  let vs <- compG L emit g gs it ⟨relab sc fr, cs, locals sc.names, if keep then fr.base else σ.length⟩
  endC keep ok σ vs : M (List α)) σ
noncomputable def compV {α : Type} (keep : Bool) (ok : List α -> Bool) (emit : Fr -> M (List α)) (gens : List Comprehension) (sc : Scope) (fr : Fr) : M (List α) := do
 match gens with
 | [] => fail
 | g :: gs => do
  guardM (notSet g.iter && (g :: gs).all (fun g => g.is_async == 0) && sc.kind == .function && sc.names.all fun x => x.2 != .local || sc.names.lookup x.1 == some .local)
  let it <- iterSrcC L g.target g.iter fr
  compIn L keep ok emit g gs it sc fr
noncomputable def dictV : List (Str × V) -> List (Str × V) -> List (Str × V)
 | [], acc => acc
 | (k, v) :: r, acc => dictV r (dset acc k v)
noncomputable def intO : Option Expr -> Fr -> M (Option Int)
 | Option.none, _ => pure Option.none
 | some e, fr => do let v <- L.ev e fr; let i <- intV v; pure (some i)
noncomputable def evConst : Const -> Option V
 | .none => some .none
 | .bool b => some (.bool b)
 | .int i => some (.int i)
 | .str s => some (.str s)
 | _ => Option.none
noncomputable def evNm (x : Str) (fr : Fr) : M V := do guardM (decide (x ≠ ("__debug__" : Str))); name x fr
noncomputable def slice? : Expr -> Option (Option Expr × Option Expr × Option Expr)
 | .Slice lo hi st _ => some (lo, hi, st)
 | _ => Option.none
noncomputable def evSub (o i : Expr) (fr : Fr) : M V :=
 match slice? i with
 | some q => do
  let ov <- L.ev o fr
  let l <- intO L q.1 fr; let h <- intO L q.2.1 fr; let s <- intO L q.2.2 fr
  sliceV l h s ov
 | Option.none => do let ov <- L.ev o fr; let iv <- L.ev i fr; getItem ov iv
noncomputable def attr? : Expr -> Option (Expr × Str × Pos)
 | .Attribute o m ap => some (o, m, ap)
 | _ => Option.none
noncomputable def evMeth (o : Expr) (m : Str) (ap : Pos) (args : List Expr) (p : Pos) (fr : Fr) : M V := do
 guardM (notCall0 o && (ap.endLine == p.line && decide (args.length < 30)))
 let ov <- L.ev o fr
 let t <- methTag ov m
 let vs <- evs L args fr
 callM L fr.base t ov vs
noncomputable def evListMut (f : Expr) (args : List Expr) (fr : Fr) : M V := do
 let fv <- L.ev f fr
 guardM (isCallee fv && isTy "list" fv)
 let us <- evs L args fr
 let v <- liftO (one us)
 let vs <- listOf v; let k <- alloc (.list vs); pure (.ref k)
noncomputable def evCallN (f : Expr) (args : List Expr) (fr : Fr) : M V := do
 let fv <- L.ev f fr
 guardM (isCallee fv && decide (args.length < 30))
 let vs <- evs L args fr
 L.call fr.base fv vs
noncomputable def evCall (f : Expr) (args : List Expr) (p : Pos) (fr : Fr) : M V :=
 match attr? f with
 | some q => evMeth L q.1 q.2.1 q.2.2 args p fr
 | Option.none => if isMut p then evListMut L f args fr else evCallN L f args fr
noncomputable def evPair (k v : Expr) (fr : Fr) : M (Str × V) := do
 let a <- L.ev k fr
 let x <- strV a
 let b <- L.ev v fr
 pure (x, b)
noncomputable def evDict (ks : List (Option Expr)) (vs : List Expr) (p : Pos) (fr : Fr) : M V :=
 match ks with
 | [] => do guardM vs.isEmpty; newD p []
 | k :: ks => do
  guardM ks.isEmpty
  let k <- liftO k; let v <- liftO (one vs)
  let q <- evPair L k v fr
  newD p [q]
noncomputable def cmp1 (op : CmpOp) (l r : Expr) (fr : Fr) : M Bool := do guardM (notSet r); let a <- L.ev l fr; let b <- L.ev r fr; cmp op a b
noncomputable def evStep (e : Expr) (fr : Fr) : M V :=
 match e with
 | .Constant c _ _ => liftO (evConst c)
 | .Name x _ => evNm x fr
 | .BinOp l op r _ => do let a <- L.ev l fr; let b <- L.ev r fr; binop op a b
 | .UnaryOp op x _ => do guardM (decide (op = .USub)); let v <- L.ev x fr; let i <- intV v; pure (.int (-i))
 | .IfExp t a b _ => do if <- L.tr t fr then L.ev a fr else L.ev b fr
 | .Compare l ops rs _ => do let op <- liftO (one ops); let r <- liftO (one rs); let b <- cmp1 L op l r fr; pure (.bool b)
 | .Tuple es _ _ => do let vs <- evs L es fr; guardM (decide (vs.length <= lim)); pure (.tup vs)
 | .List es p => do let vs <- evs L es fr; guardM (decide (vs.length <= lim)); newL p vs
 | .Dict ks vs p => evDict L ks vs p fr
 | .ListComp elt gens sc p => do
  let vs <- compV L (isKeep p) V.simples (fun fr => do let v <- L.ev elt fr; pure [v]) gens sc fr
  newL p vs
 | .DictComp k v gens sc p => do
  let kvs <- compV L (isKeep p) V.simpled (fun fr => do let q <- evPair L k v fr; pure [q]) gens sc fr
  newD p (dictV kvs [])
 | .Attribute o a _ => do guardM (notCall0 o); let v <- L.ev o fr; getAtt v a
 | .Subscript o i _ => evSub L o i fr
 | .Call f args ks p => do guardM ks.isEmpty; evCall L f args p fr
 | _ => fail
noncomputable def plainTest : Expr -> Bool
 | .UnaryOp .. => false
 | .BoolOp .. => false
 | .IfExp .. => false
 | .Compare .. => false
 | _ => true
noncomputable def isCompE : Expr -> Bool
 | .ListComp .. => true
 | .SetComp .. => true
 | .DictComp .. => true
 | _ => false
noncomputable def notSlice (e : Expr) : Bool := (slice? e).isNone
noncomputable def goesOn (op : BoolOp) (b : Bool) : Bool := match op with | .And => b | .Or => !b
noncomputable def trAll (op : BoolOp) : List Expr -> Fr -> M Bool
 | [], _ => pure (op == .And)
 | e :: es, fr => do
  let b <- L.tr e fr
  if goesOn op b then trAll op es fr else pure b
noncomputable def cmpE : Expr -> Option (Str × CmpOp × Str)
 | .Compare l ops rs _ => do let op <- one ops; let r <- one rs; let x <- nameE l; let y <- nameE r; pure (x, op, y)
 | _ => Option.none
noncomputable def sameE : List Expr -> Option (Str × Str)
 | es => do
  let q <- two es
  let a <- cmpE q.1; let b <- cmpE q.2
  if (a.2.1 == .Is && b.2.1 == .Eq) && (a.1 == b.1 && a.2.2 == b.2.2) then pure (a.1, a.2.2) else Option.none
noncomputable def trSame (x y : Str) (fr : Fr) : M Bool := do
 let a <- evNm x fr; let b <- evNm y fr
 let s <- strV a; let t <- strV b
 guardM (isQ s && isQ t); pure (decide (s = t))
noncomputable def trBool (op : BoolOp) (es : List Expr) (fr : Fr) : M Bool :=
 match (if op = .Or then sameE es else Option.none) with
 | some q => trSame q.1 q.2 fr
 | Option.none => trAll L op es fr
noncomputable def trPlain (e : Expr) (fr : Fr) : M Bool := do guardM (plainTest e); let v <- L.ev e fr; truth v
noncomputable def trStep (e : Expr) (fr : Fr) : M Bool :=
 match e with
 | .BoolOp op es _ => trBool L op es fr
 | .Compare l ops rs _ => do let op <- liftO (one ops); let r <- liftO (one rs); cmp1 L op l r fr
 | e => trPlain L e fr
noncomputable def afterTurn (go : Fr -> M (Fl × Fr)) (r : Fl × Fr) : M (Fl × Fr) :=
 match r.1 with
 | .next => go r.2
 | .cont => go r.2
 | .brk => pure (.next, r.2)
 | .ret v => pure (.ret v, r.2)
noncomputable def forV (chk : Chk) (body : V -> Fr -> M (Fl × Fr)) (orelse : Fr -> M (Fl × Fr)) : List V -> Fr -> M (Fl × Fr)
 | [], fr => fun σ => if chk σ then orelse fr σ else Option.none
 | v :: vs, fr => fun σ => if chk σ then (do let r <- body v fr; afterTurn (forV chk body orelse vs) r : M (Fl × Fr)) σ else Option.none
noncomputable def meth? : V -> Option (Addr × Addr × Nat)
 | .meth f C j => some (f, C, j)
 | _ => Option.none
noncomputable def oMethF (f : Addr) (o : O) : Bool := ((oIter o).bind fun m => m.bind fun v => (meth? v).map fun q => decide (q.1 = f)).getD false
noncomputable def forC (k : Nat) (body : V -> Fr -> M (Fl × Fr)) : Nat -> Fr -> M (Fl × Fr)
 | 0, _ => fail
 | n + 1, fr => do
  let o <- look k
  let c <- liftO (oIter o)
  match c with
  | Option.none => pure (.next, fr)
  | some m => do
   let q <- liftO (meth? m)
   let fi <- liftO (fnAt q.1)
   let v <- callFn L fr.base fi [] [.inst q.2.1 q.2.2]
   let s <- strV v
   let o2 <- look k
   guardM (oMethF q.1 o2)
   if s = Str.empty then putR k (.citer Option.none) (.next, fr)
   else do
    let r <- body (.str s) fr
    afterTurn (forC k body n) r
noncomputable def whileV (test : Expr) (body : List Stmt) : Nat -> Fr -> M (Fl × Fr)
 | 0, _ => fail
 | n + 1, fr => do
  if <- L.tr test fr then do
   let r <- L.exs body fr
   afterTurn (whileV test body n) r
  else pure (.next, fr)
noncomputable def isCiter (k : Nat) : M (Option Nat) := do let o <- look k; pure (if (oIter o).isSome then some k else Option.none)
noncomputable def iterRef (v : V) : M (Option Nat) :=
 match v.ref? with
 | some k => isCiter k
 | Option.none => pure Option.none
noncomputable def isIter (e : Expr) (fr : Fr) : M (Option Nat) :=
 match nameE e with
 | some x => do let v <- evNm x fr; iterRef v
 | Option.none => pure Option.none
noncomputable def evA (e : Expr) (fr : Fr) : M V := if isCompE e then evStep L e fr else L.ev e fr
noncomputable def augStep (t : Expr) (op : Operator) (e : Expr) (fr : Fr) : M (Fl × Fr) :=
 match t with
 | .Name x _ => do
  guardM (fr.kind x == some .local)
  let old <- name x fr; let v <- L.ev e fr; let r <- augop op old v; let fr' <- asg1 x r fr; pure (.next, fr')
 | .Subscript o i _ => do
  guardM (notSlice i)
  let ov <- L.ev o fr; let iv <- L.ev i fr; let old <- getItem ov iv; let v <- L.ev e fr; let r <- augop op old v; setItem fr.base ov iv r; pure (.next, fr)
 | .Attribute o a _ => do
  let ov <- L.ev o fr; let old <- getAtt ov a; let v <- L.ev e fr; let r <- augop op old v; setAtt fr.base ov a r; pure (.next, fr)
 | _ => fail
noncomputable def turnS (t : Expr) (body : List Stmt) (v : V) (fr : Fr) : M (Fl × Fr) := do let fr' <- asg L t v fr; L.exs body fr'
noncomputable def forStep (t it : Expr) (body orelse : List Stmt) (fr : Fr) : M (Fl × Fr) := do
 guardM (notSet it)
 let i <- isIter it fr
 match i with
 | some k => do guardM orelse.isEmpty; forC L k (turnS L t body) 1000 fr
 | Option.none => do let q <- iterSrc L t it fr; forV q.2 (turnS L t body) (L.exs orelse) q.1 fr
noncomputable def exStep (st : Stmt) (fr : Fr) : M (Fl × Fr) :=
 match st with
 | .Expr e _ => do guardM (!isCompE e); let _ <- L.ev e fr; pure (.next, fr)
 | .Return o _ => do let e <- liftO o; let v <- L.ev e fr; pure (.ret v, fr)
 | .Continue _ => pure (.cont, fr)
 | .If t a b _ => do if <- L.tr t fr then L.exs a fr else L.exs b fr
 | .Assign ts e _ => do let t <- liftO (one ts); guardM (isTgt t && !(isTupE t && isTupE e)); let v <- evA L e fr; let fr' <- asg L t v fr; pure (.next, fr')
 | .AugAssign t op e _ => augStep L t op e fr
 | .While t body orelse _ => do guardM orelse.isEmpty; whileV L t body 1000 fr
 | .For t it body orelse _ => forStep L t it body orelse fr
 | _ => fail
noncomputable def exL : List Stmt -> Fr -> M (Fl × Fr)
 | [], fr => pure (.next, fr)
 | st :: rest, fr => do
  let r <- exStep L st fr
  match r.1 with
  | .next => exL rest r.2
  | fl => pure (fl, r.2)
end
noncomputable def Lv.zero : Lv := ⟨fun _ _ => fail, fun _ _ => fail, fun _ _ => fail, fun _ _ _ => fail⟩
noncomputable def lv : Nat -> Lv
 | 0 => Lv.zero
 | n + 1 => ⟨evStep (lv n), trStep (lv n), exL (lv n), callV (lv n)⟩
noncomputable def law (script : List Int) : Option (V × List O) := (lv 120).call 0 (.con (.ref 213)) [.list (script.map .int)] [.tab false]
section
variable {x : Str} {v : V} {y : Str} {u : Option V} {r : List (Str × Option V)} {b : Nat -> Nat -> Bool} {i j : Nat} {is js : List Nat} {p q : Int} {ps qs : List Int} {k : NameKind} {ns : List (Str × NameKind)} {fr : Fr} {acc : List (Str × Nat)}
theorem setL_c : setL x v ((y, u) :: r) = if y = x then (y, some v) :: r else (y, u) :: setL x v r := rfl
theorem insIdx_c : insIdx b i (j :: js) = if b i j then i :: j :: js else j :: insIdx b i js := rfl
theorem sortIdx_c : sortIdx b (i :: is) js = sortIdx b is (insIdx b i js) := rfl
theorem sortIdx_n : sortIdx b [] js = js := rfl
theorem ltInts_c : ltInts (p :: ps) (q :: qs) = if p = q then ltInts ps qs else decide (p < q) := rfl
theorem locals_c : locals ((x, k) :: ns) = if k == .local then (x, Option.none) :: locals ns else locals ns := rfl
theorem mkCells_c : mkCells ((x, k) :: ns) acc = if k == .cell then do let a <- alloc (.cell Option.none); mkCells ns ((x, a) :: acc) else mkCells ns acc := rfl
theorem takenC_c : takenC fr ((x, k) :: ns) acc = if k == .free then (fr.cells.lookup x).bind fun a => takenC fr ns ((x, a) :: acc) else takenC fr ns acc := rfl
end
theorem hd {G : Prop} (h : ∀ P : Prop, (G -> P) -> P) : G := h G id
end Mine
end
section
open PySem
namespace Mine
theorem le_trans' {a b c : Str} (h1 : leS a b = true) (h2 : leS b c = true) : leS a c = true := by
 unfold leS at *
 rw [Bool.not_eq_true', decide_eq_false_iff_not, List.not_lt] at *
 exact List.le_trans h1 h2
theorem le_total' (a b : Str) : (leS a b || leS b a) = true := by
 unfold leS
 rw [Bool.or_eq_true, Bool.not_eq_true', Bool.not_eq_true', decide_eq_false_iff_not, decide_eq_false_iff_not, List.not_lt, List.not_lt]
 exact List.le_total _ _
theorem le_anti' {a b : Str} (h1 : leS a b = true) (h2 : leS b a = true) : a = b := by
 unfold leS at *
 rw [Bool.not_eq_true', decide_eq_false_iff_not, List.not_lt] at *
 have := List.le_antisymm h1 h2
 obtain ⟨⟨x⟩⟩ := a
 obtain ⟨⟨y⟩⟩ := b
 exact congrArg (fun l => (⟨⟨l⟩⟩ : Str)) this
theorem sortS_rise (xs : List Str) : (sortS xs).Pairwise fun a b => leS a b = true := List.pairwise_mergeSort (le := leS) (fun _ _ _ => le_trans') le_total' xs
theorem sortS_of {xs ys : List Str} (hp : ys.Perm xs) (hs : ys.Pairwise fun a b => leS a b = true) : ys = sortS xs :=
 List.Perm.eq_of_pairwise (le := fun a b => leS a b = true) (fun _ _ _ _ h3 h4 => le_anti' h3 h4) hs (sortS_rise xs) (hp.trans (List.mergeSort_perm xs leS).symm)
theorem sortS_perm {xs ys : List Str} (hp : xs.Perm ys) : sortS xs = sortS ys := sortS_of ((List.mergeSort_perm xs leS).trans hp) (sortS_rise xs)
end Mine
end
section
open PySem PySem.W PyProof.Rows
set_option backward.match.sparseCases false
namespace Mine
noncomputable def fiOf (a : Addr) : FnI := (fnAt a).getD ⟨[], [], default, false⟩
noncomputable def stL (b : List Stmt) (i : Nat) : Stmt := b.getD i (.Pass ⟨0, 0, 0, 0⟩)
noncomputable def noE : Expr := .Constant .none 0 ⟨0, 0, 0, 0⟩
noncomputable def sT : Stmt -> Expr | .If t .. => t | .For t .. => t | .While t .. => t | .Assign ts .. => (one ts).getD noE | .AugAssign t .. => t | _ => noE
noncomputable def sE : Stmt -> Expr | .For _ e .. => e | .Assign _ e _ => e | .AugAssign _ _ e _ => e | .Return e _ => e.getD noE | .Expr e _ => e | _ => noE
noncomputable def sA : Stmt -> List Stmt | .If _ a .. => a | .For _ _ a .. => a | .While _ a .. => a | _ => []
noncomputable def b213 : List Stmt := (fiOf 213).body
noncomputable def s213 (i : Nat) : Stmt := stL b213 i
noncomputable def SO (n : Nat) (o : Nat -> O) : List O := (List.range n).map o
noncomputable def ST (t : Bool) (cs : List V) (os : List O) : List O := .tab t :: (cs.map (fun v => O.cell (some v)) ++ (List.replicate (19 - cs.length) (.cell none) ++ os))
noncomputable def fillL : List (Str × Option V) -> List V -> List (Str × Option V)
 | (x, _) :: r, v :: vs => (x, some v) :: fillL r vs
 | l, _ => l
noncomputable def fr213 (ls : List V) : Fr := ⟨(fiOf 213).scope, ((mkCells (fiOf 213).scope.names [] [.tab false]).map (·.1)).getD [], fillL (locals (fiOf 213).scope.names) ls, 1⟩
noncomputable def Step (k : Nat) (ls cs : List V) (t : Bool) (os : List O) (ls' cs' : List V) (t' : Bool) (os' : List O) : Prop :=
 exStep (lv 118) (s213 k) (fr213 ls) (ST t cs os) = some ((.next, fr213 ls'), ST t' cs' os')
noncomputable def strL (ts : List Str) : List V := ts.map .str
noncomputable def cellsV (c : Nat -> Int) : V := .list [.int (c 0), .int (c 1), .int (c 2), .int (c 3), .int (c 4), .int (c 5), .int (c 6), .int (c 7), .int (c 8), .int (c 9), .int (c 10), .int (c 11), .int (c 12),
 .int (c 13), .int (c 14), .int (c 15), .int (c 16), .int (c 17), .int (c 18), .int (c 19), .int (c 20), .int (c 21), .int (c 22), .int (c 23), .int (c 24)]
noncomputable def nameL : List Str := ["a b", "\"c", "d\\", "#e", "f\n", "g"]
noncomputable def nm (i : Nat) : Str := nameL.getD i Str.empty
noncomputable def namesV : V := .list (strL nameL)
noncomputable def firstL : List Int := [5229446, 1, 2, 0, 1, 0, -1, -2, 1, 0, 1, 0, 2, 0, 0, 1, 0, 1, 1, 0, 1, 1, 0, 1, 0]
noncomputable def firstV : V := .list (firstL.map .int)
noncomputable def six {α : Type} (f : Nat -> α) : List α := [f 0, f 1, f 2, f 3, f 4, f 5]
noncomputable def lexO (ln : Int) (c pk : Nat) : O := .dict [(attS "lineno", .int ln), (attS "instream", .strm c), (attS "whitespace", .str "\n\t\r "), (attS "pushback", .ref pk)]
noncomputable def compO (cols : List V) : O := .dict [("comp_select_list", .list cols)]
section
variable {cs : List V} {os : List O} {t : Bool} {a : V}
theorem x0 : Step 0 [] [a] false [] [] [a, firstV] false [] := by unfold Step; kernel_rfl
theorem x2 {a b c : V} : Step 2 [] [a, b, c] false [] [namesV] [a, b, c] false [] := by unfold Step; kernel_rfl
end
end Mine
end
section
open PySem PySem.W PyProof.Rows
set_option backward.match.sparseCases false
namespace Mine
section
variable {α β : Type} {m : M α} {f : α -> M β} {a : α} {σ σ1 σ2 : List O} {r : Option (β × List O)}
theorem bindE (h : m σ = some (a, σ1)) : (m >>= f) σ = f a σ1 := by
 show (m σ).bind (fun p => f p.1 p.2) = _
 rw [h]; rfl
theorem bindR (h : m σ = some (a, σ1)) (h2 : f a σ1 = r) : (m >>= f) σ = r := (bindE h).trans h2
theorem guardE {b : Bool} (h : b = true) : guardM b σ = some ((), σ) := by rw [h]; rfl
theorem liftE {x : Option α} (h : x = some a) : liftO x σ = some (a, σ) := by rw [h]; rfl
end
theorem en {α : Type} {f g : Nat -> α} : ∀ {n : Nat}, (List.range n).map f = (List.range n).map g -> ∀ k, k < n -> f k = g k := fun {n} h k hk => by
 have := congrArg (·[k]?) h
 simpa [hk] using this
theorem en2 {α : Type} {f g : Nat -> Nat -> α} {a b : Nat} (h : ((List.range a).map fun x => (List.range b).map (f x)) = (List.range a).map fun x => (List.range b).map (g x)) (x : Nat) (hx : x < a) (y : Nat) (hy : y < b) : f x y = g x y := en (en h x hx) y hy
theorem en3 {α : Type} {f g : Nat -> Nat -> Nat -> α} {a b c : Nat} (h : ((List.range a).map fun x => (List.range b).map fun y => (List.range c).map (f x y)) = (List.range a).map fun x => (List.range b).map fun y => (List.range c).map (g x y)) (x : Nat) (hx : x < a) (y : Nat) (hy : y < b) (z : Nat) (hz : z < c) : f x y z = g x y z := en2 (en h x hx) y hy z hz
noncomputable def eL : Expr -> Expr | .BinOp l _ _ _ => l | .Compare l _ _ _ => l | .Subscript o _ _ => o | .ListComp e _ _ _ => e | .Attribute o _ _ => o | .Call f _ _ _ => f | .IfExp t _ _ _ => t | .UnaryOp _ e _ => e | _ => noE
noncomputable def eR : Expr -> Expr | .BinOp _ _ r _ => r | .Compare _ _ r _ => (one r).getD noE | .Subscript _ i _ => i | .IfExp _ a _ _ => a | _ => noE
noncomputable def eA : Expr -> List Expr | .Call _ a _ _ => a | .List a _ => a | .Tuple a _ _ => a | .BoolOp _ a _ => a | .Compare _ _ r _ => r | _ => []
noncomputable def eAt (es : List Expr) (i : Nat) : Expr := es.getD i noE
noncomputable def eO : Expr -> Operator | .BinOp _ o _ _ => o | _ => .Add
noncomputable def eCs : Expr -> List CmpOp | .Compare _ o _ _ => o | _ => []
noncomputable def eC (e : Expr) : CmpOp := (one (eCs e)).getD .Eq
noncomputable def eX : Expr -> Str | .Name x _ => x | .Attribute _ x _ => x | _ => Str.empty
noncomputable def eGS : Expr -> List Comprehension × Scope | .ListComp _ g s _ => (g, s) | .DictComp _ _ g s _ => (g, s) | _ => ([], default)
noncomputable def eG (e : Expr) : List Comprehension := (eGS e).1
noncomputable def eS (e : Expr) : Scope := (eGS e).2
noncomputable def eG1 (e : Expr) (i : Nat) : Comprehension := (eG e).getD i ⟨noE, noE, [], 0⟩
noncomputable def eKw : Expr -> Bool | .Call _ _ k _ => k.isEmpty | .BoolOp o _ _ => o == .And | .UnaryOp o _ _ => o == .USub | _ => false
noncomputable def isBinE (e : Expr) : Bool := e.ctorIdx == 2
noncomputable def isSubE (e : Expr) : Bool := e.ctorIdx == 21 && notSlice (eR e)
noncomputable def isCmpE (e : Expr) : Bool := e.ctorIdx == 15 && ((one (eCs e)).isSome && (one (eA e)).isSome && notSet (eR e))
noncomputable def isMethE (e : Expr) : Bool := e.ctorIdx == 16 && (eKw e && (eL e).ctorIdx == 20) && (notCall0 (eL (eL e)) && ((eL e).pos.endLine == e.pos.line && decide ((eA e).length < 30)))
noncomputable def isCallE (e : Expr) : Bool := e.ctorIdx == 16 && eKw e && ((attr? (eL e)).isNone && !isMut e.pos && decide ((eA e).length < 30))
noncomputable def isTupE2 (e : Expr) : Bool := e.ctorIdx == 25
noncomputable def eMt (e : Expr) : Bool := e.ctorIdx == 8 && isMut e.pos
noncomputable def eKp (e : Expr) : Bool := e.ctorIdx == 8 && isKeep e.pos
noncomputable def isLcG (e : Expr) : Bool := e.ctorIdx == 8 && (!(eG e).isEmpty && (notSet (eG1 e 0).iter && (eG e).all (fun g => g.is_async == 0) && (eS e).kind == .function && ((eS e).names.all fun x => x.2 != .local || (eS e).names.lookup x.1 == some .local)))
noncomputable def isLc (e : Expr) : Bool := isLcG e && (eG e).tail.isEmpty
theorem and_of {a b : Bool} (h : (a && b) = true) : a = true /\ b = true := Bool.and_eq_true_iff.mp h
theorem ix_of {e : Expr} {n : Nat} (h : (e.ctorIdx == n) = true) : e.ctorIdx = n := eq_of_beq h
theorem call_of {e : Expr} (h : e.ctorIdx = 16) : ∃ f a k p, e = .Call f a k p := Expr.Call.elim (motive_1 := fun e => ∃ f a k p, e = .Call f a k p) e h fun _ _ _ _ => ⟨_, _, _, _, rfl⟩
section
variable {m : Nat} {e : Expr} {fr fr' : Fr} {σ σ1 σ2 σ3 : List O} {a b v : V} {vs : List V} {c : Bool} {r : Option (V × List O)} {L : Lv}
theorem ev_bin (h : isBinE e = true) (h1 : L.ev (eL e) fr σ = some (a, σ1)) (h2 : L.ev (eR e) fr σ1 = some (b, σ2)) (h3 : binop (eO e) a b σ2 = r) : evStep L e fr σ = r :=
 Expr.BinOp.elim (motive_1 := fun e => L.ev (eL e) fr σ = some (a, σ1) -> L.ev (eR e) fr σ1 = some (b, σ2) -> binop (eO e) a b σ2 = r -> evStep L e fr σ = r) e (ix_of h) (fun _ _ _ _ h1 h2 h3 => bindR h1 (bindR h2 h3)) h1 h2 h3
theorem ev_sub (h : isSubE e = true) (h1 : L.ev (eL e) fr σ = some (a, σ1)) (h2 : L.ev (eR e) fr σ1 = some (b, σ2)) (h3 : getItem a b σ2 = r) : evStep L e fr σ = r :=
 Expr.Subscript.elim (motive_1 := fun e => (slice? (eR e)).isNone = true -> L.ev (eL e) fr σ = some (a, σ1) -> L.ev (eR e) fr σ1 = some (b, σ2) -> evStep L e fr σ = r) e (ix_of (and_of h).1) (fun o i _ h h1 h2 => by
  show evSub L o i fr σ = _
  unfold evSub
  have h : slice? i = none := Option.isNone_iff_eq_none.mp h
  rw [h]
  exact bindR h1 (bindR h2 h3)) (and_of h).2 h1 h2
theorem ev_meth {t : Mt} (h : isMethE e = true) (h1 : L.ev (eL (eL e)) fr σ = some (a, σ1)) (h2 : methTag a (eX (eL e)) σ1 = some (t, σ1)) (h3 : evs L (eA e) fr σ1 = some (vs, σ2)) (h4 : callM L fr.base t a vs σ2 = r) : evStep L e fr σ = r := by
 obtain ⟨h, g3⟩ := and_of h
 obtain ⟨g1, h⟩ := and_of h
 obtain ⟨f, as, ks, p, rfl⟩ := call_of (ix_of g1)
 obtain ⟨g1, g2⟩ := and_of h
 refine bindR (guardE g1) ?_
 exact Expr.Attribute.elim (motive_1 := fun f => (notCall0 (eL f) && (f.pos.endLine == p.line && decide (as.length < 30))) = true -> L.ev (eL f) fr σ = some (a, σ1) -> methTag a (eX f) σ1 = some (t, σ1) -> evCall L f as p fr σ = r) f (ix_of g2) (fun _ _ _ h h1 h2 => bindR (guardE h) (bindR h1 (bindR h2 (bindR h3 h4)))) g3 h1 h2
theorem ev_call (h : isCallE e = true) (h1 : L.ev (eL e) fr σ = some (a, σ1)) (hc : isCallee a = true) (h3 : evs L (eA e) fr σ1 = some (vs, σ2)) (h4 : L.call fr.base a vs σ2 = r) : evStep L e fr σ = r := by
 obtain ⟨h, g3⟩ := and_of h
 obtain ⟨g1, g2⟩ := and_of h
 obtain ⟨f, as, ks, p, rfl⟩ := call_of (ix_of g1)
 obtain ⟨h, g5⟩ := and_of g3
 obtain ⟨g3, g4⟩ := and_of h
 refine bindR (guardE g2) ?_
 show evCall L f as p fr σ = _
 unfold evCall
 have g3 : attr? f = none := Option.isNone_iff_eq_none.mp g3
 have g4 : isMut p = false := by
  cases e : isMut p
  ·rfl
  ·have g4 : (!isMut p) = true := g4
   rw [e] at g4; cases g4
 rw [g3]
 dsimp only
 rw [g4]
 exact bindR h1 (bindR (guardE (by rw [hc]; exact g5)) (bindR h3 h4))
theorem evs_nil : evs L [] fr σ = some ([], σ) := rfl
theorem eVc {es : List Expr} (h : isStarred e = false) (h1 : L.ev e fr σ = some (a, σ1)) (h2 : evs L es fr σ1 = some (vs, σ2)) : evs L (e :: es) fr σ = some (a :: vs, σ2) := by
 show (guardM (!isStarred e) >>= fun _ => _ : M (List V)) σ = _
 exact bindR (guardE (by rw [h]; rfl)) (bindR h1 (bindR h2 rfl))
theorem ev_tup (h : isTupE2 e = true) (h1 : evs L (eA e) fr σ = some (vs, σ1)) (hl : decide (vs.length <= lim) = true) : evStep L e fr σ = some (.tup vs, σ1) :=
 Expr.Tuple.elim (motive_1 := fun e => evs L (eA e) fr σ = some (vs, σ1) -> evStep L e fr σ = some (.tup vs, σ1)) e (ix_of h) (fun _ _ _ h1 => bindR h1 (bindR (guardE hl) rfl)) h1
theorem tr_cmp (h : isCmpE e = true) (h1 : L.ev (eL e) fr σ = some (a, σ1)) (h2 : L.ev (eR e) fr σ1 = some (b, σ2)) (h3 : cmp (eC e) a b σ2 = some (c, σ3)) : trStep L e fr σ = some (c, σ3) :=
 Expr.Compare.elim (motive_1 := fun e => ((one (eCs e)).isSome && (one (eA e)).isSome && notSet (eR e)) = true -> L.ev (eL e) fr σ = some (a, σ1) -> L.ev (eR e) fr σ1 = some (b, σ2) -> cmp (eC e) a b σ2 = some (c, σ3) -> trStep L e fr σ = some (c, σ3)) e (ix_of (and_of h).1) (fun l os rs _ h h1 h2 h3 => by
  obtain ⟨h, g3⟩ := and_of h
  obtain ⟨g1, g2⟩ := and_of h
  obtain ⟨o, eo⟩ := Option.isSome_iff_exists.mp g1
  obtain ⟨x, ex⟩ := Option.isSome_iff_exists.mp g2
  have eo : one os = some o := eo
  have ex : one rs = some x := ex
  have h3 : cmp ((one os).getD .Eq) a b σ2 = _ := h3
  have h2 : L.ev ((one rs).getD noE) fr σ1 = _ := h2
  have g3 : notSet ((one rs).getD noE) = true := g3
  rw [eo] at h3
  rw [ex] at h2 g3
  exact bindR (liftE eo) (bindR (liftE ex) (bindR (guardE g3) (bindR h1 (bindR h2 h3))))) (and_of h).2 h1 h2 h3
theorem tests_one (h : L.tr e fr σ = some (c, σ1)) : tests L [e] fr σ = some (c, σ1) := by
 refine bindR h ?_
 cases c <;> rfl
theorem ixs_of {e : Stmt} {n : Nat} (h : (e.ctorIdx == n) = true) : e.ctorIdx = n := eq_of_beq h
noncomputable def sTs : Stmt -> List Expr | .Assign t _ _ => t | _ => []
noncomputable def isAsg (st : Stmt) : Bool := st.ctorIdx == 5 && ((one (sTs st)).isSome && (isTgt (sT st) && !(isTupE (sT st) && isTupE (sE st))))
theorem st_as {st : Stmt} {q : Option ((Fl × Fr) × List O)} (h : isAsg st = true) (h1 : evA L (sE st) fr σ = some (v, σ1)) (h2 : (asg L (sT st) v fr >>= fun fr' => pure (Fl.next, fr')) σ1 = q) : exStep L st fr σ = q :=
 Stmt.Assign.elim (motive_2 := fun st => ((one (sTs st)).isSome && (isTgt (sT st) && !(isTupE (sT st) && isTupE (sE st)))) = true -> evA L (sE st) fr σ = some (v, σ1) -> (asg L (sT st) v fr >>= fun fr' => pure (Fl.next, fr')) σ1 = q -> exStep L st fr σ = q) st (ixs_of (and_of h).1) (fun ts x _ h h1 h2 => by
  obtain ⟨g1, g2⟩ := and_of h
  obtain ⟨t, et⟩ := Option.isSome_iff_exists.mp g1
  have et : one ts = some t := et
  have g2 : (isTgt ((one ts).getD noE) && !(isTupE ((one ts).getD noE) && isTupE x)) = true := g2
  have h2 : (asg L ((one ts).getD noE) v fr >>= fun fr' => pure (Fl.next, fr')) σ1 = q := h2
  rw [et] at g2 h2
  exact bindR (liftE et) (bindR (guardE g2) (bindR h1 h2))) (and_of h).2 h1 h2
noncomputable def isIf (st : Stmt) : Bool := st.ctorIdx == 12
noncomputable def sB : Stmt -> List Stmt | .If _ _ a .. => a | .For _ _ _ a .. => a | .While _ _ a .. => a | _ => []
theorem st_if {st : Stmt} {q : Option ((Fl × Fr) × List O)} (h : isIf st = true) (h1 : L.tr (sT st) fr σ = some (c, σ1)) (h2 : L.exs (if c then sA st else sB st) fr σ1 = q) : exStep L st fr σ = q :=
 Stmt.If.elim (motive_2 := fun st => L.tr (sT st) fr σ = some (c, σ1) -> L.exs (if c then sA st else sB st) fr σ1 = q -> exStep L st fr σ = q) st (ixs_of h) (fun _ _ _ _ h1 h2 => bindR h1 (by cases c <;> exact h2)) h1 h2
noncomputable def isExp (st : Stmt) : Bool := st.ctorIdx == 24 && !isCompE (sE st)
theorem st_expr {st : Stmt} (h : isExp st = true) (h1 : L.ev (sE st) fr σ = some (v, σ1)) : exStep L st fr σ = some ((.next, fr), σ1) :=
 Stmt.Expr.elim (motive_2 := fun st => (!isCompE (sE st)) = true -> L.ev (sE st) fr σ = some (v, σ1) -> exStep L st fr σ = some ((.next, fr), σ1)) st (ixs_of (and_of h).1) (fun _ _ h h1 => bindR (guardE h) (bindR h1 rfl)) (and_of h).2 h1
theorem st_no {n : Nat} {st : Stmt} (h : isIf st = true) (h0 : (sB st).isEmpty = true) (h1 : (lv (n + 1)).tr (sT st) fr σ = some (false, σ1)) : exStep (lv (n + 1)) st fr σ = some ((.next, fr), σ1) :=
 st_if h h1 (by
  show (lv (n + 1)).exs (sB st) fr σ1 = _
  rw [List.isEmpty_iff.mp h0]; rfl)
theorem xNx {st : Stmt} {sts : List Stmt} {q : Option ((Fl × Fr) × List O)} (h : exStep L st fr σ = some ((.next, fr'), σ1)) (h2 : exL L sts fr' σ1 = q) : exL L (st :: sts) fr σ = q := bindR h h2
theorem exL_nil : exL L [] fr σ = some ((.next, fr), σ) := rfl
theorem exL_ret {st : Stmt} {sts : List Stmt} (h : exStep L st fr σ = some ((.ret v, fr'), σ1)) : exL L (st :: sts) fr σ = some ((.ret v, fr'), σ1) := bindR h rfl
theorem fVc {chk : Chk} {body : V -> Fr -> M (Fl × Fr)} {els : Fr -> M (Fl × Fr)} {q : Option ((Fl × Fr) × List O)} (h : chk σ = true) (h1 : body v fr σ = some ((.next, fr'), σ1)) (h2 : forV chk body els vs fr' σ1 = q) : forV chk body els (v :: vs) fr σ = q := by
 show (if chk σ then _ else _) = _
 rw [if_pos h]; exact bindR h1 h2
theorem forV_ret {chk : Chk} {body : V -> Fr -> M (Fl × Fr)} {els : Fr -> M (Fl × Fr)} (h : chk σ = true) (h1 : body v fr σ = some ((.ret a, fr'), σ1)) : forV chk body els (v :: vs) fr σ = some ((.ret a, fr'), σ1) := by
 show (if chk σ then _ else _) = _
 rw [if_pos h]; exact bindR h1 rfl
theorem turns_chain {α : Type} {f : V -> M (List α)} {it : Nat -> V} {w : Nat -> List α} {S : Nat -> List O} : ∀ {n k : Nat}, (∀ j, j < n -> f (it (k + j)) (S (k + j)) = some (w (k + j), S (k + j + 1))) -> turns noChk f ((List.range' k n).map it) (S k) = some ((List.range' k n).flatMap w, S (k + n))
 | 0, k, _ => rfl
 | n + 1, k, h => bindR (h 0 (Nat.succ_pos _)) (bindR (turns_chain (k := k + 1) fun j hj => by
   have := h (j + 1) (Nat.succ_lt_succ hj)
   rw [Nat.add_assoc k 1 j, Nat.add_comm 1 j]; exact this) (by rw [Nat.add_assoc k 1 n, Nat.add_comm 1 n]; rfl))
theorem tPu {α β : Type} {chk : Chk} {f : V -> M (List α)} {t : β -> V} {w : β -> List α} (hc : chk σ = true) : ∀ {vs : List β}, (∀ v ∈ vs, f (t v) σ = some (w v, σ)) -> turns chk f (vs.map t) σ = some (vs.flatMap w, σ)
 | [], _ => if_pos hc
 | v :: vs, h => (if_pos hc).trans (bindR (h v (.head _)) (bindR (tPu hc fun u hu => h u (.tail _ hu)) rfl))
noncomputable def cfr (e : Expr) (fr : Fr) (σ : List O) : Fr := ⟨relab (eS e) fr, ((takenC fr (eS e).names []).bind fun cl => (mkCells (eS e).names cl σ).map (·.1)).getD [], locals (eS e).names, if eKp e then fr.base else σ.length⟩
noncomputable def emitL (L : Lv) (e : Expr) (fr : Fr) : M (List V) := do let v <- L.ev (eL e) fr; pure [v]
theorem ev_lcG {items : List V} {chk : Chk} (h : isLcG e = true) (hk : (eKp e, eMt e) = (false, false)) (hi : iterSrcC L (eG1 e 0).target (eG1 e 0).iter fr σ = some ((items, chk), σ)) (hc : (takenC fr (eS e).names []).bind (fun cl => (mkCells (eS e).names cl σ).map (·.2)) = some σ3)
  (ht : compG L (emitL L e) (eG1 e 0) (eG e).tail (items, chk) (cfr e fr σ) σ3 = some (vs, σ1)) (hl : decide (vs.length <= lim) = true) (hs : V.simples vs = true) : evStep L e fr σ = some (.list vs, σ1.take σ.length) := by
 obtain ⟨g0, h⟩ := and_of h
 obtain ⟨elt, gs, sc, p, rfl⟩ : ∃ a b c d, e = .ListComp a b c d := Expr.ListComp.elim (motive_1 := fun e => ∃ a b c d, e = .ListComp a b c d) e (ix_of g0) fun _ _ _ _ => ⟨_, _, _, _, rfl⟩
 obtain ⟨hk1, hk2⟩ := Prod.mk.inj hk
 cases gs with
 | nil => cases h
 | cons g gs =>
 have hp : isMut p = false := hk2
 have hkp : isKeep p = false := hk1
 obtain ⟨cl, h1, h2⟩ := Option.bind_eq_some_iff.mp hc
 obtain ⟨⟨cs, σ'⟩, h3, h4⟩ := Option.map_eq_some_iff.mp h2
 have h4 : σ' = σ3 := h4
 subst h4
 have ec : cfr (.ListComp elt (g :: gs) sc p) fr σ = ⟨relab sc fr, cs, locals sc.names, σ.length⟩ := by
  unfold cfr
  show Fr.mk (relab sc fr) (((takenC fr sc.names []).bind fun cl => (mkCells sc.names cl σ).map (·.1)).getD []) _ (if isKeep p then _ else _) = _
  have h1 : takenC fr sc.names [] = some cl := h1
  have h3 : mkCells sc.names cl σ = some (cs, σ') := h3
  rw [h1, Option.bind_some, h3, hkp]; rfl
 rw [ec] at ht
 have hin : compIn L (isKeep p) V.simples (fun fr => do let v <- L.ev elt fr; pure [v]) g gs (items, chk) sc fr σ = some (vs, σ1.take σ.length) := by
  refine bindR (liftE h1) (bindR h3 ?_)
  rw [hkp]
  refine bindR ht ?_
  show (if vs.length <= lim then (if V.simples vs then some (vs, σ1.take σ.length) else none) else none) = _
  rw [if_pos (of_decide_eq_true hl), if_pos hs]
 show (compV L (isKeep p) V.simples _ (g :: gs) sc fr >>= fun vs => newL p vs) σ = _
 refine bindR (a := vs) (σ1 := σ1.take σ.length) ?_ (by unfold newL; rw [hp]; rfl)
 exact bindR (guardE (and_of h).2) (bindR hi hin)
theorem ev_lc {items : List V} {chk : Chk} (h : isLc e = true) (hk : (eKp e, eMt e) = (false, false)) (hi : iterSrcC L (eG1 e 0).target (eG1 e 0).iter fr σ = some ((items, chk), σ)) (hc : (takenC fr (eS e).names []).bind (fun cl => (mkCells (eS e).names cl σ).map (·.2)) = some σ3)
  (ht : turns chk (turn1 L (eG1 e 0) (cfr e fr σ) (emitL L e)) items σ3 = some (vs, σ1)) (hl : decide (vs.length <= lim) = true) (hs : V.simples vs = true) : evStep L e fr σ = some (.list vs, σ1.take σ.length) :=
 ev_lcG (and_of h).1 hk hi hc (by rw [List.isEmpty_iff.mp (and_of h).2]; exact ht) hl hs
end
theorem call_fn {a : Addr} (h1 : (initOf a).isNone = true) (h2 : decide (a = 161) = false) (h3 : (fnAt a).isSome = true) {m base : Nat} {args : List V} {σ : List O} : (lv (m + 1)).call base (.con (.ref a)) args σ = callFn (lv m) base (fiOf a) [] args σ := by
 show callRef (lv m) base a args σ = _
 unfold callRef
 rw [Option.isNone_iff_eq_none.mp h1]
 dsimp only
 rw [if_neg (of_decide_eq_false h2)]
 obtain ⟨f, e⟩ := Option.isSome_iff_exists.mp h3
 unfold fiOf
 rw [e]; rfl
section
variable {α : Type} {L : Lv} {g : Comprehension} {fr fr1 : Fr} {inner : Fr -> M (List α)} {v : V} {σ σ1 : List O} {r : Option (List α × List O)}
theorem tGo (ha : asgC g.target v fr σ = some (fr1, σ)) (hi : g.ifs = []) (he : inner fr1 σ = r) : turn1 L g fr inner v σ = r := by
 refine bindR ha (bindR (a := true) (σ1 := σ) ?_ he)
 rw [hi]; rfl
theorem turn_if {c : Bool} {x : List α} (ha : asgC g.target v fr σ = some (fr1, σ)) (hi : tests L g.ifs fr1 σ = some (c, σ)) (he : inner fr1 σ = some (x, σ)) : turn1 L g fr inner v σ = some (if c then x else [], σ) := by
 refine bindR ha (bindR hi ?_)
 cases c
 ·rfl
 ·exact he
end
noncomputable def iv (k : Nat) : V := .int k
noncomputable def it (n : Nat) : List V := (List.range' 0 n).map iv
noncomputable def fill1 : List (Str × Option V) -> List V -> List (Str × Option V)
 | p :: r, vs => p :: fillL r vs
 | [], _ => []
noncomputable def cf1 (e : Expr) (fr : Fr) (σ : List O) (vs : List V) : Fr := { cfr e fr σ with loc := fill1 (cfr e fr σ).loc vs }
theorem turns_n {α : Type} {f : V -> M (List α)} {w : Nat -> List α} {S : Nat -> List O} {n : Nat} (h : ∀ k, k < n -> f (iv k) (S k) = some (w k, S (k + 1))) : turns noChk f (it n) (S 0) = some ((List.range' 0 n).flatMap w, S n) := by
 have := turns_chain (f := f) (it := iv) (w := w) (S := S) (n := n) (k := 0) fun j hj => by rw [Nat.zero_add]; exact h j hj
 rw [Nat.zero_add] at this; exact this
theorem mOf {L : Lv} {e : Expr} {fr : Fr} {v : V} {σ σ1 : List O} (h : L.ev (eL e) fr σ = some (v, σ1)) : emitL L e fr σ = some ([v], σ1) := bindR h rfl
noncomputable def zipO : List (Str × Option V) -> List (Option V) -> List (Str × Option V)
 | (x, _) :: r, v :: vs => (x, v) :: zipO r vs
 | l, _ => l
noncomputable def frA (a : Addr) (vs : List (Option V)) (cs : List (Str × Nat)) (b : Nat) : Fr := ⟨(fiOf a).scope, cs, zipO (locals (fiOf a).scope.names) vs, b⟩
theorem getAtt_at {C : Addr} {k : Nat} {kvs : List (Str × V)} {a : Str} {v : V} {σ : List O} (hk : σ[k]? = some (.dict kvs)) (h : kvs.lookup a = some v) (hc : (attOk C a && !isCon v) = true) : getAtt (.inst C k) a σ = some (v, σ) := by
 refine bindR (a := (C, k)) (σ1 := σ) rfl (bindR (a := kvs) (σ1 := σ) (bindR (a := .dict kvs) (σ1 := σ) ?_ rfl) ?_)
 ·show (σ[k]?).map _ = _
  rw [hk]; rfl
 ·show (match kvs.lookup a with | some v => _ | none => _ : M V) σ = _
  rw [h]
  exact bindR (guardE hc) rfl
noncomputable def ent (w : Nat -> Int) (d : List (Str × V)) : V := .tup [.int (w 0), .int (w 1), .int (w 2), .int (w 3), .dict d]
noncomputable def cmpC : List (Nat × Int) -> (Nat -> Int) -> (Nat -> Int) -> Int
 | [], _, _ => 0
 | (c, d) :: r, w, u => if w c < u c then -d else if u c < w c then d else cmpC r w u
theorem cmpC_c {c : Nat} {d : Int} {r : List (Nat × Int)} {w u : Nat -> Int} : cmpC ((c, d) :: r) w u = if w c < u c then -d else if u c < w c then d else cmpC r w u := rfl
noncomputable def colV (p : Nat × Int) : V := .tup [.int p.1, .int p.2]
noncomputable def f35 : Stmt := stL (fiOf 35).body 0
section
variable {m b k n c : Nat} {σ : List O} {w u : Nat -> Int} {x y : List (Str × V)} {d : Int} {i e l r : Option V} {z : Int}
noncomputable def F35 (k b : Nat) (w u : Nat -> Int) (x y : List (Str × V)) (i e l r : Option V) : Fr := frA 35 [some (.inst 38 k), some (ent w x), some (ent u y), i, e, l, r] [] b
theorem cmp_t (hc : c < 4) : ∃ i' e' l' r', turnS (lv (m + 4)) (sT f35) (sA f35) (colV (c, d)) (F35 k b w u x y i e l r) σ = some ((if w c < u c then .ret (.int (-d)) else if u c < w c then .ret (.int d) else .next, F35 k b w u x y i' e' l' r'), σ) := by
 refine ⟨some (.int c), some (.int d), some (.int (w c)), some (.int (u c)), ?_⟩
 refine bindR (a := F35 k b w u x y (some (.int c)) (some (.int d)) l r) (σ1 := σ) (by kernel_rfl) ?_
 have s0 := en (f := fun c => exStep (lv (m + 3)) (stL (sA f35) 0) (F35 k b w u x y (some (.int c)) (some (.int d)) l r) σ) (g := fun c => some ((.next, F35 k b w u x y (some (.int c)) (some (.int d)) (some (.int (w c))) r), σ)) (n := 4) (by kernel_rfl) c hc
 have s1 := en (f := fun c => exStep (lv (m + 3)) (stL (sA f35) 1) (F35 k b w u x y (some (.int c)) (some (.int d)) (some (.int (w c))) r) σ) (g := fun c => some ((.next, F35 k b w u x y (some (.int c)) (some (.int d)) (some (.int (w c))) (some (.int (u c)))), σ)) (n := 4) (by kernel_rfl) c hc
 refine Eq.trans (b := exL (lv (m + 3)) [stL (sA f35) 0, stL (sA f35) 1, stL (sA f35) 2, stL (sA f35) 3] (F35 k b w u x y (some (.int c)) (some (.int d)) l r) σ) (by kernel_rfl) ?_
 refine xNx s0 (xNx s1 ?_)
 have t2 : (lv (m + 3)).tr (sT (stL (sA f35) 2)) (F35 k b w u x y (some (.int c)) (some (.int d)) (some (.int (w c))) (some (.int (u c)))) σ = some (decide (w c < u c), σ) := by kernel_rfl
 have t3 : (lv (m + 3)).tr (sT (stL (sA f35) 3)) (F35 k b w u x y (some (.int c)) (some (.int d)) (some (.int (w c))) (some (.int (u c)))) σ = some (decide (u c < w c), σ) := by kernel_rfl
 by_cases g1 : w c < u c
 ·rw [decide_eq_true g1] at t2
  rw [if_pos g1]
  exact exL_ret (st_if rfl t2 (by kernel_rfl))
 ·rw [decide_eq_false g1] at t2
  rw [if_neg g1]
  refine xNx (st_no rfl rfl t2) ?_
  by_cases g2 : u c < w c
  ·rw [decide_eq_true g2] at t3
   rw [if_pos g2]
   exact exL_ret (st_if rfl t3 (by kernel_rfl))
  ·rw [decide_eq_false g2] at t3
   rw [if_neg g2]
   exact xNx (st_no rfl rfl t3) rfl
theorem cmp_for : ∀ (cols : List (Nat × Int)) (i e l r : Option V), (∀ p ∈ cols, p.1 < 4) -> ∃ fl fr', forV noChk (turnS (lv (m + 4)) (sT f35) (sA f35)) ((lv (m + 4)).exs []) (cols.map colV) (F35 k b w u x y i e l r) σ = some ((fl, fr'), σ) /\ ((fl = .next /\ cmpC cols w u = 0 /\ fr'.scope = (fiOf 35).scope) ∨ fl = .ret (.int (cmpC cols w u)))
 | [], i, e, l, r, _ => ⟨_, _, rfl, .inl ⟨rfl, rfl, rfl⟩⟩
 | (c, d) :: cols, i, e, l, r, hc => by
  obtain ⟨i', e', l', r', h⟩ := cmp_t (m := m) (b := b) (k := k) (σ := σ) (w := w) (u := u) (x := x) (y := y) (d := d) (i := i) (e := e) (l := l) (r := r) (hc _ (.head _))
  rw [cmpC_c]
  by_cases g1 : w c < u c
  ·rw [if_pos g1] at h ⊢
   exact ⟨_, _, forV_ret rfl h, .inr rfl⟩
  ·rw [if_neg g1] at h ⊢
   by_cases g2 : u c < w c
   ·rw [if_pos g2] at h ⊢
    exact ⟨_, _, forV_ret rfl h, .inr rfl⟩
   ·rw [if_neg g2] at h ⊢
    obtain ⟨fl, fr', h1, h2⟩ := cmp_for cols i' e' l' r' fun p hp => hc p (.tail _ hp)
    exact ⟨fl, fr', fVc rfl h h1, h2⟩
theorem call_cmp {cols : List (Nat × Int)} (hk : σ[k]? = some (compO (cols.map colV))) (hc : ∀ p ∈ cols, p.1 < 4) : (lv (m + 7)).call b (.con (.ref 35)) [.inst 38 k, ent w x, ent u y] σ = some (.int (cmpC cols w u), σ) := by
 rw [call_fn (m := m + 6) rfl rfl rfl]
 refine Eq.trans (b := ((lv (m + 6)).exs (fiOf 35).body (F35 k σ.length w u x y none none none none) >>= fun r => endFn false σ (flV r.1)) σ) (by kernel_rfl) ?_
 refine hd fun P0 q0 => ?_
 obtain ⟨fl, fr', h1, h2⟩ := cmp_for (m := m + 1) (b := σ.length) (k := k) (σ := σ) (w := w) (u := u) (x := x) (y := y) cols none none none none hc
 refine q0 ?_
 have hi : iterSrc (lv (m + 5)) (sT f35) (sE f35) (F35 k σ.length w u x y none none none none) σ = some ((cols.map colV, noChk), σ) := by
  refine Eq.trans (b := (getAtt (.inst 38 k) (attS "comp_select_list") >>= fun v => guardM (!isItems v || true) >>= fun _ => itOf v) σ) (by kernel_rfl) ?_
  exact bindR (getAtt_at hk rfl rfl) rfl
 have hf : exStep (lv (m + 5)) f35 (F35 k σ.length w u x y none none none none) σ = some ((fl, fr'), σ) := by
  refine Eq.trans (b := (iterSrc (lv (m + 5)) (sT f35) (sE f35) (F35 k σ.length w u x y none none none none) >>= fun q => forV q.2 (turnS (lv (m + 5)) (sT f35) (sA f35)) ((lv (m + 5)).exs []) q.1 (F35 k σ.length w u x y none none none none)) σ) (by kernel_rfl) ?_
  exact bindR hi h1
 have hx : (lv (m + 6)).exs (fiOf 35).body (F35 k σ.length w u x y none none none none) σ = some ((.ret (.int (cmpC cols w u)), fr'), σ) := by
  refine Eq.trans (b := exL (lv (m + 5)) [f35, stL (fiOf 35).body 1] (F35 k σ.length w u x y none none none none) σ) (by kernel_rfl) ?_
  rcases h2 with ⟨rfl, h2, h3⟩ | rfl
  ·rw [h2]
   exact xNx hf (by kernel_rfl)
  ·exact exL_ret hf
 refine bindR hx ?_
 show some (V.int (cmpC cols w u), σ.take σ.length) = _
 rw [List.take_length]
end
theorem call_le {m b : Nat} {σ : List O} {x y : Int} : (lv (m + 4)).call b (.con (.ref 112)) [.int x, .int y] σ = some (.bool (decide (x <= y)), σ.take σ.length) := by kernel_rfl
theorem call_ge {m b : Nat} {σ : List O} {x y : Int} : (lv (m + 4)).call b (.con (.ref 119)) [.int x, .int y] σ = some (.bool (decide (y <= x)), σ.take σ.length) := by kernel_rfl
theorem call_gt {m b : Nat} {σ : List O} {x y : Int} : (lv (m + 4)).call b (.con (.ref 126)) [.int x, .int y] σ = some (.bool (decide (y < x)), σ.take σ.length) := by kernel_rfl
theorem call_sub {m b : Nat} {σ : List O} {x y : Int} : (lv (m + 4)).call b (.con (.ref 133)) [.int x, .int y] σ = some (.int (x - y), σ.take σ.length) := by kernel_rfl
noncomputable def everyI (st : Nat) : Nat -> List Int -> List Int
 | _, [] => []
 | 0, v :: vs => v :: everyI st (st - 1) vs
 | n + 1, _ :: vs => everyI st n vs
theorem every_map (st : Nat) : ∀ (n : Nat) (l : List Int), every st n (l.map .int) = (everyI st n l).map .int
 | _, [] => by cases ‹Nat› <;> rfl
 | 0, v :: vs => congrArg (V.int v :: ·) (every_map st (st - 1) vs)
 | n + 1, v :: vs => every_map st n vs
theorem sumV_ints : ∀ l : List Int, sumV (l.map .int) = some l.sum
 | [] => rfl
 | i :: l => by
  show (sumV (l.map .int)).map (i + ·) = _
  rw [sumV_ints l, List.sum_cons]; rfl
noncomputable def cc (is : List Int) (k : Nat) : Int := firstL.getD k 0 + (everyI 25 0 (is.drop k)).sum
theorem call_sum {m b : Nat} {σ : List O} {l : List Int} : (lv (m + 1)).call b (.con (.builtin "sum")) [.list (l.map .int)] σ = some (.int l.sum, σ) := by
 refine Eq.trans (b := (liftO (sumV (l.map .int)) >>= fun r => pure (.int r)) σ) (by kernel_rfl) ?_
 rw [sumV_ints]; rfl
noncomputable def lcE (k : Nat) : Expr := sE (s213 k)
section
variable {is : List Int} {c : Nat -> Int}
noncomputable def t1 (is : List Int) : List O := ST false [.list (is.map .int), firstV] []
theorem x1 : Step 1 [] [.list (is.map .int), firstV] false [] [] [.list (is.map .int), firstV, cellsV (cc is)] false [] := by
 have ht : turns noChk (turn1 (lv 118) (eG1 (lcE 1) 0) (cfr (lcE 1) (fr213 []) (t1 is)) (emitL (lv 118) (lcE 1))) (it 25) (t1 is) = some ((List.range' 0 25).flatMap fun k => [V.int (cc is k)], t1 is) := by
  refine turns_n (S := fun _ => t1 is) (w := fun k => [V.int (cc is k)]) fun k hk => ?_
  refine tGo (fr1 := cf1 (lcE 1) (fr213 []) (t1 is) [iv k]) (by kernel_rfl) rfl (mOf ?_)
  refine ev_bin (a := .int (firstL.getD k 0)) (σ1 := t1 is) rfl (en (f := fun k => (lv 117).ev (eL (eL (lcE 1))) (cf1 (lcE 1) (fr213 []) (t1 is) [iv k]) (t1 is)) (g := fun k => some (.int (firstL.getD k 0), t1 is)) (n := 25) (by kernel_rfl) k hk) (b := .int (everyI 25 0 (is.drop k)).sum) (σ2 := t1 is) ?_ rfl
  refine ev_call (L := lv 116) (e := eR (eL (lcE 1))) (a := .con (.builtin "sum")) (σ1 := t1 is) rfl (by kernel_rfl) rfl (vs := [.list ((everyI 25 0 (is.drop k)).map .int)]) (σ2 := t1 is) ?_ call_sum
  rw [<- every_map, List.map_drop]
  kernel_rfl
 refine st_as rfl (v := cellsV (cc is)) (σ1 := t1 is) ?_ (by kernel_rfl)
 exact ev_lc (e := lcE 1) rfl (by kernel_rfl) (items := it 25) (by kernel_rfl) (by kernel_rfl) ht (by kernel_rfl) (by kernel_rfl)
end
noncomputable def four (w : Nat -> Int) : V := .list [.int (w 0), .int (w 1), .int (w 2), .int (w 3)]
noncomputable def own (c : Nat -> Int) (k i : Nat) : Int := c (1 + 4 * k + i)
noncomputable def tot (c : Nat -> Int) (k : Nat) : Int := own c k 0 + (own c k 1 + (own c k 2 + (own c k 3 + 0)))
noncomputable def wacc (c : Nat -> Int) : Nat -> Nat -> Int
 | 0, _ => 0
 | j + 1, i => wacc c j i + own c (5 - j) i ^ 2
noncomputable def thE (w : Nat -> Int) (x : Str) (s : Int) : V := ent w [(x, .int s)]
noncomputable def wtab (c : Nat -> Int) : Nat -> List (Str × V)
 | 0 => []
 | j + 1 => wtab c j ++ [(nm (5 - j), thE (wacc c (j + 1)) (nm (5 - j)) (tot c (5 - j)))]
noncomputable def NN : Nat -> Nat
 | 0 => 20
 | _ => 34
noncomputable def b178 (i : Nat) : Stmt := stL (fiOf 178).body i
noncomputable def q178 (i : Nat) : Stmt := stL (sA (b178 2)) i
section
variable {m z i : Nat} {o : Nat -> O} {c : Nat -> Int} {w v : Nat -> Int} {k x y : Option V} {d : List (Str × V)} {a b : V}
noncomputable def F178 (z : Nat) (c : Nat -> Int) (k : Option V) : Fr := frA 178 [some (cellsV c), some namesV, some (.ref (NN z + 2)), k] [("own", NN z + 1), ("worth", NN z)] (NN z)
noncomputable def S178 (z : Nat) (o : Nat -> O) (x y : Option V) (d : List (Str × V)) : List O := SO (NN z) o ++ [.cell x, .cell y, .dict d]
theorem pow2 {σ : List O} {x : Int} (h : x.natAbs < big) : binop .Pow (.int x) (.int 2) σ = some (.int (x ^ 2), σ) :=
 bindR (a := (2 : Int)) (σ1 := σ) rfl (bindR (guardE (decide_eq_true ⟨by decide, by decide, h⟩)) rfl)
noncomputable def lw178 : Expr := sE (q178 1)
theorem w_turn (hz : z < 2) (hb : ∀ i, (v i).natAbs < big) : evA (lv (m + 9)) lw178 (F178 z c k) (S178 z o (some (four w)) (some (four v)) d) = some (four fun i => w i + v i ^ 2, S178 z o (some (four w)) (some (four v)) d) := by
 have ht : turns noChk (turn1 (lv (m + 9)) (eG1 lw178 0) (cfr lw178 (F178 z c k) (S178 z o (some (four w)) (some (four v)) d)) (emitL (lv (m + 9)) lw178)) (it 4) (S178 z o (some (four w)) (some (four v)) d) = some ((List.range' 0 4).flatMap fun i => [V.int (w i + v i ^ 2)], S178 z o (some (four w)) (some (four v)) d) := by
  refine turns_n (S := fun _ => S178 z o (some (four w)) (some (four v)) d) (w := fun i => [V.int (w i + v i ^ 2)]) fun i hi => ?_
  refine tGo (fr1 := cf1 lw178 (F178 z c k) (S178 z o (some (four w)) (some (four v)) d) [iv i]) ?_ rfl (mOf ?_)
  ·exact en (f := fun z => asgC (eG1 lw178 0).target (iv i) (cfr lw178 (F178 z c k) (S178 z o (some (four w)) (some (four v)) d)) (S178 z o (some (four w)) (some (four v)) d)) (g := fun z => some (cf1 lw178 (F178 z c k) (S178 z o (some (four w)) (some (four v)) d) [iv i], S178 z o (some (four w)) (some (four v)) d)) (n := 2) (by kernel_rfl) z hz
  refine ev_bin (L := lv (m + 8)) (e := eL lw178) (a := .int (w i)) (σ1 := S178 z o (some (four w)) (some (four v)) d) rfl ?_ (b := .int (v i ^ 2)) (σ2 := S178 z o (some (four w)) (some (four v)) d) ?_ rfl
  ·exact en2 (f := fun z i => (lv (m + 8)).ev (eL (eL lw178)) (cf1 lw178 (F178 z c k) (S178 z o (some (four w)) (some (four v)) d) [iv i]) (S178 z o (some (four w)) (some (four v)) d)) (g := fun z i => some (.int (w i), S178 z o (some (four w)) (some (four v)) d)) (a := 2) (b := 4) (by kernel_rfl) z hz i hi
  ·refine ev_bin (L := lv (m + 7)) (e := eR (eL lw178)) (a := .int (v i)) (σ1 := S178 z o (some (four w)) (some (four v)) d) rfl ?_ (b := .int 2) (σ2 := S178 z o (some (four w)) (some (four v)) d) (by kernel_rfl) (pow2 (hb i))
   exact en2 (f := fun z i => (lv (m + 7)).ev (eL (eR (eL lw178))) (cf1 lw178 (F178 z c k) (S178 z o (some (four w)) (some (four v)) d) [iv i]) (S178 z o (some (four w)) (some (four v)) d)) (g := fun z i => some (.int (v i), S178 z o (some (four w)) (some (four v)) d)) (a := 2) (b := 4) (by kernel_rfl) z hz i hi
 have hL : ∀ z, z < 2 -> (S178 z o (some (four w)) (some (four v)) d).take (S178 z o (some (four w)) (some (four v)) d).length = S178 z o (some (four w)) (some (four v)) d := fun z _ => List.take_length
 rw [<- hL z hz]
 refine (congrArg _ ?_).trans ((ev_lc (L := lv (m + 9)) (e := lw178) rfl (by kernel_rfl) (items := it 4) ?_ ?_ ht (by kernel_rfl) (by kernel_rfl)).trans rfl)
 ·exact hL z hz
 ·exact en (f := fun z => iterSrcC (lv (m + 9)) (eG1 lw178 0).target (eG1 lw178 0).iter (F178 z c k) (S178 z o (some (four w)) (some (four v)) d)) (g := fun z => some ((it 4, noChk), S178 z o (some (four w)) (some (four v)) d)) (n := 2) (by kernel_rfl) z hz
 ·exact en (f := fun z => (takenC (F178 z c k) (eS lw178).names []).bind (fun cl => (mkCells (eS lw178).names cl (S178 z o (some (four w)) (some (four v)) d)).map (·.2))) (g := fun z => some (S178 z o (some (four w)) (some (four v)) d)) (n := 2) (by kernel_rfl) z hz
noncomputable def T178 (z : Nat) (o : Nat -> O) (c : Nat -> Int) (j : Nat) : List O := S178 z o (some (four (wacc c j))) (if j = 0 then none else some (four (own c (6 - j)))) (wtab c j)
noncomputable def K178 (j : Nat) : Option V := if j = 0 then none else some (iv (6 - j))
theorem w_go (hz : z < 2) (hb : ∀ j, (c j).natAbs < big) {j : Nat} (hj : j < 6) : turnS (lv (m + 11)) (sT (b178 2)) (sA (b178 2)) (iv (5 - j)) (F178 z c (K178 j)) (T178 z o c j) = some ((.next, F178 z c (K178 (j + 1))), T178 z o c (j + 1)) := by
 have h0 := en2 (f := fun z j => asg (lv (m + 11)) (sT (b178 2)) (iv (5 - j)) (F178 z c (K178 j)) (T178 z o c j)) (g := fun z j => some (F178 z c (K178 (j + 1)), T178 z o c j)) (a := 2) (b := 6) (by kernel_rfl) z hz j hj
 have h1 := en2 (f := fun z j => exStep (lv (m + 10)) (q178 0) (F178 z c (K178 (j + 1))) (T178 z o c j)) (g := fun z j => some ((.next, F178 z c (K178 (j + 1))), S178 z o (some (four (wacc c j))) (some (four (own c (5 - j)))) (wtab c j))) (a := 2) (b := 6) (by kernel_rfl) z hz j hj
 have h2 : exStep (lv (m + 10)) (q178 1) (F178 z c (K178 (j + 1))) (S178 z o (some (four (wacc c j))) (some (four (own c (5 - j)))) (wtab c j)) = some ((.next, F178 z c (K178 (j + 1))), S178 z o (some (four (wacc c (j + 1)))) (some (four (own c (5 - j)))) (wtab c j)) := by
  refine st_as rfl (w_turn (m := m + 1) hz fun i => hb _) ?_
  exact en2 (f := fun z j => (asg (lv (m + 10)) (sT (q178 1)) (four (wacc c (j + 1))) (F178 z c (K178 (j + 1))) >>= fun fr' => pure (Fl.next, fr')) (S178 z o (some (four (wacc c j))) (some (four (own c (5 - j)))) (wtab c j))) (g := fun z j => some ((.next, F178 z c (K178 (j + 1))), S178 z o (some (four (wacc c (j + 1)))) (some (four (own c (5 - j)))) (wtab c j))) (a := 2) (b := 6) (by kernel_rfl) z hz j hj
 have h3 := en2 (f := fun z j => exStep (lv (m + 10)) (q178 2) (F178 z c (K178 (j + 1))) (S178 z o (some (four (wacc c (j + 1)))) (some (four (own c (5 - j)))) (wtab c j))) (g := fun z j => some ((.next, F178 z c (K178 (j + 1))), T178 z o c (j + 1))) (a := 2) (b := 6) (by kernel_rfl) z hz j hj
 refine bindR h0 ?_
 refine Eq.trans (b := exL (lv (m + 10)) [q178 0, q178 1, q178 2] (F178 z c (K178 (j + 1))) (T178 z o c j)) (by kernel_rfl) ?_
 exact xNx h1 (xNx h2 (xNx h3 exL_nil))
theorem call_worths {b : Nat} (hz : z < 2) (hb : ∀ j, (c j).natAbs < big) : (lv (m + 15)).call b (.con (.ref 178)) [cellsV c, namesV] (SO (NN z) o) = some (.dict (wtab c 6), SO (NN z) o) := by
 rw [call_fn (m := m + 14) rfl rfl rfl]
 have h0 := en (f := fun z => callFn (lv (m + 14)) b (fiOf 178) [] [cellsV c, namesV] (SO (NN z) o)) (g := fun z => ((forV noChk (turnS (lv (m + 13)) (sT (b178 2)) (sA (b178 2))) ((lv (m + 13)).exs []) [iv 5, iv 4, iv 3, iv 2, iv 1, iv 0] (F178 z c none) >>= fun r => (match r.1 with | .next => exL (lv (m + 13)) [b178 3] r.2 | fl => pure (fl, r.2))) >>= fun r => endFn false (SO (NN z) o) (flV r.1)) (T178 z o c 0)) (n := 2) (by kernel_rfl) z hz
 refine h0.trans ?_
 have hf : forV noChk (turnS (lv (m + 13)) (sT (b178 2)) (sA (b178 2))) ((lv (m + 13)).exs []) [iv 5, iv 4, iv 3, iv 2, iv 1, iv 0] (F178 z c none) (T178 z o c 0) = some ((.next, F178 z c (K178 6)), T178 z o c 6) :=
  fVc rfl (w_go (m := m + 2) hz hb (j := 0) (by decide)) (fVc rfl (w_go (m := m + 2) hz hb (j := 1) (by decide)) (fVc rfl (w_go (m := m + 2) hz hb (j := 2) (by decide)) (fVc rfl (w_go (m := m + 2) hz hb (j := 3) (by decide)) (fVc rfl (w_go (m := m + 2) hz hb (j := 4) (by decide)) (fVc rfl (w_go (m := m + 2) hz hb (j := 5) (by decide)) rfl)))))
 refine bindR (bindR hf (en (f := fun z => exL (lv (m + 13)) [b178 3] (F178 z c (K178 6)) (T178 z o c 6)) (g := fun z => some ((.ret (.ref (NN z + 2)), F178 z c (K178 6)), T178 z o c 6)) (n := 2) (by kernel_rfl) z hz)) ?_
 exact en (f := fun z => endFn false (SO (NN z) o) (.ref (NN z + 2)) (T178 z o c 6)) (g := fun z => some (.dict (wtab c 6), SO (NN z) o)) (n := 2) (by kernel_rfl) z hz
end
noncomputable def oOf (l : List O) (k : Nat) : O := l.getD k (.tab false)
section
variable {c : Nat -> Int} {a : V} {is : List Int}
noncomputable def t3 (a : V) (c : Nat -> Int) : List O := ST false [a, firstV, cellsV c] []
theorem x3 (hb : ∀ j, (c j).natAbs < big) : Step 3 [namesV] [a, firstV, cellsV c] false [] [namesV] [a, firstV, cellsV c, .dict (wtab c 6)] false [] := by
 have h : evA (lv 118) (sE (s213 3)) (fr213 [namesV]) (t3 a c) = some (.dict (wtab c 6), t3 a c) :=
  ev_call (L := lv 117) (e := sE (s213 3)) (a := .con (.ref 178)) (σ1 := t3 a c) rfl (by kernel_rfl) rfl (vs := [cellsV c, namesV]) (σ2 := t3 a c) (by kernel_rfl) (call_worths (m := 102) (z := 0) (o := oOf (t3 a c)) (b := 1) (by decide) hb)
 exact st_as rfl h (by kernel_rfl)
noncomputable def ordG {α : Type} (d : α) : Nat -> Int -> List α -> List α
 | 0, _, _ => []
 | c + 1, n, l => l.getD (n % (c + 1 : Nat)).toNat d :: ordG d c (n / (c + 1 : Nat)) (l.eraseIdx (n % (c + 1 : Nat)).toNat)
noncomputable def b173 (i : Nat) : Stmt := stL (fiOf 173).body i
noncomputable def q173 (i : Nat) : Stmt := stL (sA (b173 2)) i
noncomputable def F173 (N : Nat) (n : Int) (th : V) (k : Option V) : Fr := frA 173 [some (.int n), some th, some (.ref N), some (.ref (N + 1)), k] [] N
noncomputable def S173 (N : Nat) (o : Nat -> O) (l q : List V) : List O := SO N o ++ [.list l, .list q]
noncomputable def MM : Nat -> Nat
 | 0 => 20
 | _ => 24
variable {m z k : Nat} {o : Nat -> O} {n : Int} {th : V} {kk : Option V} {l q : List V}
noncomputable def pE : Expr := sE (q173 0)
theorem o_pop {σ : List O} {N i : Nat} {l : List V} {v : V} {b : Nat} (h : σ[N]? = some (.list l)) (hi : l[i]? = some v) : callBm b "list.pop" (.ref N) [.int i] σ = some (v, σ.set N (.list (l.eraseIdx i))) := by
 have hN : N < σ.length := (List.getElem?_eq_some_iff.mp h).1
 refine bindR (a := N) (σ1 := σ) rfl (bindR (a := V.int i) (σ1 := σ) rfl (bindR (a := (i : Int)) (σ1 := σ) rfl (bindR (a := l) (σ1 := σ) (bindR (a := .list l) (σ1 := σ) ?_ rfl) (bindR (guardE rfl) (bindR (a := v) (σ1 := σ) ?_ ?_)))))
 ·show (σ[N]?).map _ = _
  rw [h]; rfl
 ·show (l[i]?).map _ = _
  rw [hi]; rfl
 ·show (if N < σ.length then _ else _) = _
  rw [if_pos hN]; rfl
theorem o_app {σ : List O} {N : Nat} {l : List V} {v : V} {b : Nat} (h : σ[N]? = some (.list l)) (hb : (decide (b <= N) || v.simple) = true) (hl : l.length < 100000) : callBm b "list.append" (.ref N) [v] σ = some (.none, σ.set N (.list (l ++ [v]))) := by
 have hN : N < σ.length := (List.getElem?_eq_some_iff.mp h).1
 refine bindR (a := N) (σ1 := σ) rfl (bindR (a := v) (σ1 := σ) rfl (bindR (a := l) (σ1 := σ) (bindR (a := .list l) (σ1 := σ) ?_ rfl) (bindR (guardE hb) (bindR (guardE (decide_eq_true hl)) ?_))))
 ·show (σ[N]?).map _ = _
  rw [h]; rfl
 ·show (if N < σ.length then _ else _) = _
  rw [if_pos hN]
theorem o_turn (hz : z < 2) (hk : k < 6) (hl : l.length = k + 1) (hq : q.length < 10) :
  turnS (lv (m + 9)) (sT (b173 2)) (sA (b173 2)) (iv (k + 1)) (F173 (MM z) n th kk) (S173 (MM z) o l q) = some ((.next, F173 (MM z) (n / (k + 1 : Nat)) th (some (iv (k + 1)))), S173 (MM z) o (l.eraseIdx (n % (k + 1 : Nat)).toNat) (q ++ [l.getD (n % (k + 1 : Nat)).toNat .none])) := by
 have h0 := en (f := fun z => asg (lv (m + 9)) (sT (b173 2)) (iv (k + 1)) (F173 (MM z) n th kk) (S173 (MM z) o l q)) (g := fun z => some (F173 (MM z) n th (some (iv (k + 1))), S173 (MM z) o l q)) (n := 2) (by kernel_rfl) z hz
 refine bindR h0 ?_
 refine Eq.trans (b := exL (lv (m + 8)) [q173 0, q173 1] (F173 (MM z) n th (some (iv (k + 1)))) (S173 (MM z) o l q)) (by kernel_rfl) ?_
 have hi0 : 0 <= n % (k + 1 : Nat) := Int.emod_nonneg _ (by lia)
 have hi1 : n % (k + 1 : Nat) < (k + 1 : Nat) := Int.emod_lt_of_pos _ (by lia)
 have ei : n % (k + 1 : Nat) = ((n % (k + 1 : Nat)).toNat : Int) := (Int.toNat_of_nonneg hi0).symm
 have hlt : (n % (k + 1 : Nat)).toNat < l.length := by lia
 have hv : l[(n % (k + 1 : Nat)).toNat]? = some (l.getD (n % (k + 1 : Nat)).toNat .none) := by
  rw [List.getD_eq_getElem?_getD, List.getElem?_eq_getElem hlt]; rfl
 have g1 := en2 (f := fun z k => evs (lv (m + 6)) (eA (eAt (eA pE) 0)) (F173 (MM z) n th (some (iv (k + 1)))) (S173 (MM z) o l q)) (g := fun z k => some ([.int (n % (k + 1 : Nat))], S173 (MM z) o l q)) (a := 2) (b := 6) (by kernel_rfl) z hz k hk
 generalize hi : (n % (k + 1 : Nat)).toNat = i at *
 have g2 : (lv (m + 7)).ev (eAt (eA pE) 0) (F173 (MM z) n th (some (iv (k + 1)))) (S173 (MM z) o l q) = some (l.getD i .none, S173 (MM z) o (l.eraseIdx i) q) := by
  refine ev_meth (L := lv (m + 6)) (a := .ref (MM z)) (σ1 := S173 (MM z) o l q) (t := .bi "list.pop") rfl ?_ ?_ g1 ?_
  ·exact en (f := fun z => (lv (m + 6)).ev (eL (eL (eAt (eA pE) 0))) (F173 (MM z) n th (some (iv (k + 1)))) (S173 (MM z) o l q)) (g := fun z => some (.ref (MM z), S173 (MM z) o l q)) (n := 2) (by kernel_rfl) z hz
  ·exact en (f := fun z => methTag (.ref (MM z)) (eX (eL (eAt (eA pE) 0))) (S173 (MM z) o l q)) (g := fun z => some (.bi "list.pop", S173 (MM z) o l q)) (n := 2) (by kernel_rfl) z hz
  ·rw [ei]
   refine (o_pop (N := MM z) (i := i) (en (f := fun z => (S173 (MM z) o l q)[MM z]?) (g := fun z => some (.list l)) (n := 2) (by kernel_rfl) z hz) hv).trans ?_
   exact congrArg _ (congrArg _ (en (f := fun z => (S173 (MM z) o l q).set (MM z) (.list (l.eraseIdx i))) (g := fun z => S173 (MM z) o (l.eraseIdx i) q) (n := 2) (by kernel_rfl) z hz))
 have g3 : exStep (lv (m + 8)) (q173 0) (F173 (MM z) n th (some (iv (k + 1)))) (S173 (MM z) o l q) = some ((.next, F173 (MM z) n th (some (iv (k + 1)))), S173 (MM z) o (l.eraseIdx i) (q ++ [l.getD i .none])) := by
  refine st_expr rfl (v := .none) (ev_meth (L := lv (m + 7)) (e := pE) (a := .ref (MM z + 1)) (σ1 := S173 (MM z) o l q) (t := .bi "list.append") rfl ?_ ?_ (eVc rfl g2 evs_nil) ?_)
  ·exact en (f := fun z => (lv (m + 7)).ev (eL (eL pE)) (F173 (MM z) n th (some (iv (k + 1)))) (S173 (MM z) o l q)) (g := fun z => some (.ref (MM z + 1), S173 (MM z) o l q)) (n := 2) (by kernel_rfl) z hz
  ·exact en (f := fun z => methTag (.ref (MM z + 1)) (eX (eL pE)) (S173 (MM z) o l q)) (g := fun z => some (.bi "list.append", S173 (MM z) o l q)) (n := 2) (by kernel_rfl) z hz
  ·refine (o_app (N := MM z + 1) (l := q) (en (f := fun z => (S173 (MM z) o (l.eraseIdx i) q)[MM z + 1]?) (g := fun z => some (.list q)) (n := 2) (by kernel_rfl) z hz) (en (f := fun z => (decide (MM z <= MM z + 1) || (l.getD i .none).simple)) (g := fun z => true) (n := 2) (by kernel_rfl) z hz) (by lia)).trans ?_
   exact congrArg _ (congrArg _ (en (f := fun z => (S173 (MM z) o (l.eraseIdx i) q).set (MM z + 1) (.list (q ++ [l.getD i .none]))) (g := fun z => S173 (MM z) o (l.eraseIdx i) (q ++ [l.getD i .none])) (n := 2) (by kernel_rfl) z hz))
 refine xNx g3 (xNx (en2 (f := fun z k => exStep (lv (m + 8)) (q173 1) (F173 (MM z) n th (some (iv (k + 1)))) (S173 (MM z) o (l.eraseIdx i) (q ++ [l.getD i .none]))) (g := fun z k => some ((.next, F173 (MM z) (n / (k + 1 : Nat)) th (some (iv (k + 1)))), S173 (MM z) o (l.eraseIdx i) (q ++ [l.getD i .none]))) (a := 2) (b := 6) (by kernel_rfl) z hz k hk) exL_nil)
theorem o_for (hz : z < 2) : ∀ (k : Nat) (n : Int) (l q : List V) (kk : Option V), k <= 6 -> l.length = k -> q.length + k < 10 -> ∃ fr, forV noChk (turnS (lv (m + 9)) (sT (b173 2)) (sA (b173 2))) ((lv (m + 9)).exs []) ((List.range k).reverse.map fun j => iv (j + 1)) (F173 (MM z) n th kk) (S173 (MM z) o l q) = some ((.next, fr), S173 (MM z) o [] (q ++ ordG .none k n l)) /\ ∃ n kk, fr = F173 (MM z) n th kk
 | 0, n, l, q, kk, _, hl, _ => by
  obtain rfl := List.length_eq_zero_iff.mp hl
  exact ⟨_, by rw [show ordG V.none 0 n [] = [] from rfl, List.append_nil]; rfl, n, kk, rfl⟩
 | k + 1, n, l, q, kk, hk, hl, hq => by
  have h := o_turn (m := m) (o := o) (n := n) (th := th) (kk := kk) hz (k := k) (by lia) hl (q := q) (by lia)
  have hi0 : 0 <= n % (k + 1 : Nat) := Int.emod_nonneg _ (by lia)
  have hi1 : n % (k + 1 : Nat) < (k + 1 : Nat) := Int.emod_lt_of_pos _ (by lia)
  obtain ⟨fr, h2, h3⟩ := o_for hz k (n / (k + 1 : Nat)) (l.eraseIdx (n % (k + 1 : Nat)).toNat) (q ++ [l.getD (n % (k + 1 : Nat)).toNat .none]) (some (iv (k + 1))) (by lia) (by rw [List.length_eraseIdx, if_pos (by lia)]; lia) (by rw [List.length_append]; show q.length + 1 + k < 10; lia)
  refine ⟨fr, ?_, h3⟩
  rw [List.range_succ, List.reverse_append]
  rw [List.append_assoc] at h2
  exact fVc rfl h h2
theorem sIf : ∀ {l : List V}, V.simples l = true ↔ ∀ v ∈ l, v.simple = true
 | [] => ⟨fun _ _ h => (nomatch h), fun _ => rfl⟩
 | v :: l => by
  show (v.simple && V.simples l) = true ↔ _
  rw [Bool.and_eq_true, sIf (l := l), List.forall_mem_cons]
theorem getD_simple {l : List V} (h : ∀ v ∈ l, v.simple = true) (i : Nat) : (l.getD i .none).simple = true := by
 rw [List.getD_eq_getElem?_getD]
 cases e : l[i]? with
 | none => rfl
 | some v => exact h v (List.mem_of_getElem? e)
theorem ord_simple : ∀ (k : Nat) (n : Int) (l : List V), (∀ v ∈ l, v.simple = true) -> ∀ v ∈ ordG .none k n l, v.simple = true
 | 0, _, _, _, v, hv => nomatch hv
 | k + 1, n, l, h, v, hv => by
  rcases List.mem_cons.mp hv with rfl | hv
  ·exact getD_simple h _
  ·exact ord_simple k _ _ (fun u hu => h u (List.mem_of_mem_eraseIdx hu)) v hv
theorem frz_list {b N : Nat} {σ : List O} {l : List V} (h : σ[N]? = some (.list l)) (hb : decide (b <= N) = true) (hs : V.simples l = true) : frz b σ (.ref N) = some (.list l) := by
 show (if b <= N then (σ[N]?).bind plainO else none) = _
 rw [if_pos (of_decide_eq_true hb), h]
 show (if V.simples l then some (V.list l) else none) = _
 rw [if_pos hs]
theorem endF {b : Nat} {σ τ ρ : List O} {v u : V} (h1 : frz σ.length τ v = some u) (h2 : τ.take σ.length = ρ) : endFn false σ v τ = some (u, ρ) := by
 show (frz σ.length τ v).map _ = _
 rw [h1, h2]; rfl
theorem call_order6 {b : Nat} {x0 x1 x2 x3 x4 x5 : V} (hs : V.simples [x0, x1, x2, x3, x4, x5] = true) : (lv (m + 14)).call b (.con (.ref 173)) [.int n, .list [x0, x1, x2, x3, x4, x5]] (SO 20 o) = some (.list (ordG .none 6 n [x0, x1, x2, x3, x4, x5]), SO 20 o) := by
 rw [call_fn (m := m + 13) rfl rfl rfl]
 refine hd fun P0 q0 => ?_
 obtain ⟨fr, h1, n2, k2, rfl⟩ := o_for (m := m + 3) (z := 0) (o := o) (th := .list [x0, x1, x2, x3, x4, x5]) (by decide) 6 n [x0, x1, x2, x3, x4, x5] [] none (by decide) rfl (by decide)
 refine q0 ?_
 refine Eq.trans (b := ((forV noChk (turnS (lv (m + 12)) (sT (b173 2)) (sA (b173 2))) ((lv (m + 12)).exs []) ((List.range 6).reverse.map fun j => iv (j + 1)) (F173 20 n (.list [x0, x1, x2, x3, x4, x5]) none) >>= fun r => (match r.1 with | .next => exL (lv (m + 12)) [b173 3] r.2 | fl => pure (fl, r.2))) >>= fun r => endFn false (SO 20 o) (flV r.1)) (S173 20 o [x0, x1, x2, x3, x4, x5] [])) (by kernel_rfl) ?_
 refine bindR (bindR h1 (Eq.refl (some ((Fl.ret (.ref 21), F173 20 n2 (.list [x0, x1, x2, x3, x4, x5]) k2), S173 20 o [] (ordG .none 6 n [x0, x1, x2, x3, x4, x5]))))) (endF (b := 0) (frz_list (N := 21) (by kernel_rfl) (by kernel_rfl) (sIf.mpr (ord_simple _ _ _ (sIf.mp hs)))) (by kernel_rfl))
theorem call_order4 {b : Nat} {x0 x1 x2 x3 : V} (hs : V.simples [x0, x1, x2, x3] = true) : (lv (m + 14)).call b (.con (.ref 173)) [.int n, .list [x0, x1, x2, x3]] (SO 24 o) = some (.list (ordG .none 4 n [x0, x1, x2, x3]), SO 24 o) := by
 rw [call_fn (m := m + 13) rfl rfl rfl]
 refine hd fun P0 q0 => ?_
 obtain ⟨fr, h1, n2, k2, rfl⟩ := o_for (m := m + 3) (z := 1) (o := o) (th := .list [x0, x1, x2, x3]) (by decide) 4 n [x0, x1, x2, x3] [] none (by decide) rfl (by decide)
 refine q0 ?_
 refine Eq.trans (b := ((forV noChk (turnS (lv (m + 12)) (sT (b173 2)) (sA (b173 2))) ((lv (m + 12)).exs []) ((List.range 4).reverse.map fun j => iv (j + 1)) (F173 24 n (.list [x0, x1, x2, x3]) none) >>= fun r => (match r.1 with | .next => exL (lv (m + 12)) [b173 3] r.2 | fl => pure (fl, r.2))) >>= fun r => endFn false (SO 24 o) (flV r.1)) (S173 24 o [x0, x1, x2, x3] [])) (by kernel_rfl) ?_
 refine bindR (bindR h1 (Eq.refl (some ((Fl.ret (.ref 25), F173 24 n2 (.list [x0, x1, x2, x3]) k2), S173 24 o [] (ordG .none 4 n [x0, x1, x2, x3]))))) (endF (b := 0) (frz_list (N := 25) (by kernel_rfl) (by kernel_rfl) (sIf.mpr (ord_simple _ _ _ (sIf.mp hs)))) (by kernel_rfl))
end
theorem erase_map {α β : Type} {f : α -> β} : ∀ (l : List α) (i : Nat), (l.map f).eraseIdx i = (l.eraseIdx i).map f
 | [], _ => rfl
 | a :: l, 0 => rfl
 | a :: l, i + 1 => congrArg (f a :: ·) (erase_map l i)
theorem erase_perm {α : Type} : ∀ {l : List α} {i : Nat} (h : i < l.length), (l[i] :: l.eraseIdx i).Perm l
 | a :: l, 0, _ => .refl _
 | a :: l, i + 1, h => (List.Perm.swap _ _ _).trans ((erase_perm (l := l) (i := i) (Nat.lt_of_succ_lt_succ h)).cons a)
theorem mod_lt (n : Int) (c : Nat) : (n % (c + 1 : Nat)).toNat < c + 1 := by
 have hi0 : 0 <= n % (c + 1 : Nat) := Int.emod_nonneg _ (by lia)
 have hi1 : n % (c + 1 : Nat) < (c + 1 : Nat) := Int.emod_lt_of_pos _ (by lia)
 lia
theorem erase_len {α : Type} {l : List α} {c i : Nat} (h : l.length = c + 1) (hi : i < c + 1) : (l.eraseIdx i).length = c := by
 rw [List.length_eraseIdx, if_pos (h ▸ hi), h]; rfl
theorem ord_map {α : Type} {d : α} {f : α -> V} : ∀ (c : Nat) (n : Int) (l : List α), l.length = c -> ordG .none c n (l.map f) = (ordG d c n l).map f
 | 0, _, _, _ => rfl
 | c + 1, n, l, h => by
  have hlt := mod_lt n c
  show (l.map f).getD (n % (c + 1 : Nat)).toNat .none :: ordG .none c (n / (c + 1 : Nat)) ((l.map f).eraseIdx (n % (c + 1 : Nat)).toNat) = f (l.getD (n % (c + 1 : Nat)).toNat d) :: (ordG d c (n / (c + 1 : Nat)) (l.eraseIdx (n % (c + 1 : Nat)).toNat)).map f
  rw [List.getD_eq_getElem?_getD, List.getD_eq_getElem?_getD, List.getElem?_map, List.getElem?_eq_getElem (h ▸ hlt), erase_map, ord_map (d := d) c _ _ (erase_len h hlt)]; rfl
theorem ord_perm {α : Type} {d : α} : ∀ (c : Nat) (n : Int) (l : List α), l.length = c -> (ordG d c n l).Perm l
 | 0, _, l, h => by rw [List.length_eq_zero_iff.mp h]; exact .refl _
 | c + 1, n, l, h => by
  have hlt := mod_lt n c
  show (l.getD (n % (c + 1 : Nat)).toNat d :: ordG d c (n / (c + 1 : Nat)) (l.eraseIdx (n % (c + 1 : Nat)).toNat)).Perm l
  rw [List.getD_eq_getElem?_getD, List.getElem?_eq_getElem (h ▸ hlt)]
  exact (List.Perm.cons _ (ord_perm (d := d) c _ _ (erase_len h hlt))).trans (erase_perm (h ▸ hlt))
noncomputable def wdOf (c0 : Int) : List Nat := ordG 0 6 (c0 / 24) [0, 1, 2, 3, 4, 5]
noncomputable def wd (c0 : Int) (k : Nat) : Nat := (wdOf c0).getD k 0
theorem wd_perm (c0 : Int) : (wdOf c0).Perm [0, 1, 2, 3, 4, 5] := ord_perm 6 _ _ rfl
theorem wd_lt (c0 : Int) {k : Nat} (hk : k < 6) : wd c0 k < 6 := by
 have hl : k < (wdOf c0).length := by rw [(wd_perm c0).length_eq]; exact hk
 have h : wd c0 k ∈ wdOf c0 := by
  unfold wd
  rw [List.getD_eq_getElem?_getD, List.getElem?_eq_getElem hl]
  exact List.getElem_mem _
 exact (by decide : ∀ x ∈ [0, 1, 2, 3, 4, 5], x < 6) _ ((wd_perm c0).mem_iff.mp h)
noncomputable def wordsV (c0 : Int) : V := .list (strL (six fun k => nm (wd c0 k)))
theorem words_eq (c0 : Int) : V.list (ordG .none 6 (c0 / 24) (strL nameL)) = wordsV c0 :=
 congrArg V.list ((ord_map (d := 0) (f := fun i => V.str (nm i)) 6 (c0 / 24) [0, 1, 2, 3, 4, 5] rfl).trans rfl)
section
variable {c : Nat -> Int} {a : V} {is : List Int}
noncomputable def t4 (a : V) (c : Nat -> Int) : List O := ST false [a, firstV, cellsV c, .dict (wtab c 6)] []
theorem x4 : Step 4 [namesV] [a, firstV, cellsV c, .dict (wtab c 6)] false [] [namesV] [a, firstV, cellsV c, .dict (wtab c 6), wordsV (c 0)] false [] := by
 have h : evA (lv 118) (sE (s213 4)) (fr213 [namesV]) (t4 a c) = some (wordsV (c 0), t4 a c) := by
  rw [<- words_eq]
  exact ev_call (L := lv 117) (e := sE (s213 4)) (a := .con (.ref 173)) (σ1 := t4 a c) rfl (by kernel_rfl) rfl (vs := [.int (c 0 / 24), namesV]) (σ2 := t4 a c) (by kernel_rfl) (call_order6 (m := 103) (o := oOf (t4 a c)) (b := 1) rfl)
 exact st_as rfl h (by kernel_rfl)
noncomputable def bl (b : Nat) : Str := [("\n" : Str), "\t", "\r", " "].getD b Str.empty
noncomputable def strOf : Option (V × List O) -> Str
 | some (.str s, _) => s
 | _ => Str.empty
noncomputable def wr (i s b : Nat) : Str := strOf ((lv 30).call 0 (.con (.ref 166)) [.str (nm i), .int s, .str (bl b)] [])
theorem wr_call {m b i s k : Nat} {o : Nat -> O} (hi : i < 6) (hs : s < 3) (hk : k < 4) : (lv (m + 20)).call b (.con (.ref 166)) [.str (nm i), .int s, .str (bl k)] (SO 20 o) = some (.str (wr i s k), SO 20 o) :=
 en3 (f := fun i s k => (lv (m + 20)).call b (.con (.ref 166)) [.str (nm i), iv s, .str (bl k)] (SO 20 o)) (g := fun i s k => some (.str (wr i s k), SO 20 o)) (a := 6) (b := 3) (c := 4) (by kernel_rfl) i hi s hs k hk
noncomputable def sty (c0 : Int) (k : Nat) : Nat := (c0 / (17280 * 3 ^ k) % 3).toNat
noncomputable def piece (c0 : Int) (k : Nat) : Str := wr (wd c0 k) (sty c0 k) (k % 4)
theorem sty_lt (c0 : Int) (k : Nat) : sty c0 k < 3 := mod_lt _ 2
theorem sty_int (c0 : Int) (k : Nat) : iv (sty c0 k) = .int (c0 / (17280 * 3 ^ k) % 3) := congrArg V.int (Int.toNat_of_nonneg (Int.emod_nonneg _ (by decide)))
noncomputable def pcs (c0 : Int) : List Str := six (piece c0)
noncomputable def t5 (a : V) (c : Nat -> Int) : List O := ST false [a, firstV, cellsV c, .dict (wtab c 6), wordsV (c 0)] []
theorem x5 : Step 5 [namesV] [a, firstV, cellsV c, .dict (wtab c 6), wordsV (c 0)] false [] [namesV] [a, firstV, cellsV c, .dict (wtab c 6), wordsV (c 0), .list (strL (pcs (c 0)))] false [] := by
 have ht : turns noChk (turn1 (lv 118) (eG1 (lcE 5) 0) (cfr (lcE 5) (fr213 [namesV]) (t5 a c)) (emitL (lv 118) (lcE 5))) (it 6) (t5 a c) = some ((List.range' 0 6).flatMap fun k => [V.str (piece (c 0) k)], t5 a c) := by
  refine turns_n (S := fun _ => t5 a c) (w := fun k => [V.str (piece (c 0) k)]) fun k hk => ?_
  refine tGo (fr1 := cf1 (lcE 5) (fr213 [namesV]) (t5 a c) [iv k]) (by kernel_rfl) rfl (mOf ?_)
  have hv := en (f := fun k => evs (lv 117) (eA (eL (lcE 5))) (cf1 (lcE 5) (fr213 [namesV]) (t5 a c) [iv k]) (t5 a c)) (g := fun k => some ([.str (nm (wd (c 0) k)), .int (c 0 / (17280 * 3 ^ k) % 3), .str (bl (k % 4))], t5 a c)) (n := 6) (by kernel_rfl) k hk
  rw [<- sty_int] at hv
  exact ev_call (L := lv 117) (e := eL (lcE 5)) (a := .con (.ref 166)) (σ1 := t5 a c) rfl (by kernel_rfl) rfl hv (wr_call (m := 97) (o := oOf (t5 a c)) (wd_lt _ hk) (sty_lt _ _) (Nat.mod_lt _ (by decide)))
 refine st_as rfl (v := .list (strL (pcs (c 0)))) (σ1 := t5 a c) ?_ (by kernel_rfl)
 exact ev_lc (e := lcE 5) rfl (by kernel_rfl) (items := it 6) (by kernel_rfl) (by kernel_rfl) ht (by kernel_rfl) (by kernel_rfl)
end
noncomputable def okPc (s : Str) : Bool := decide (2 <= s.length /\ s.length <= 20) && (chars s).all fun x => !isQ x
theorem wr_ok : ∀ i, i < 6 -> ∀ s, s < 3 -> ∀ b, b < 4 -> okPc (wr i s b) = true := by decide +kernel
noncomputable def jn : List Str -> Str
 | [] => Str.empty
 | s :: r => s ++ jn r
theorem jn_c {s : Str} {r : List Str} : jn (s :: r) = s ++ jn r := rfl
theorem joinV_str : ∀ ps : List Str, joinV (strL ps) = some (jn ps)
 | [] => rfl
 | s :: ps => by
  show (joinV (strL ps)).map (s ++ ·) = _
  rw [joinV_str ps]; rfl
theorem chars_app (a b : Str) : chars (a ++ b) = chars a ++ chars b := by
 show ((a.cps ++ b.cps).toList.map fun c => (⟨#[c]⟩ : Str)) = (a.cps.toList.map fun c => (⟨#[c]⟩ : Str)) ++ b.cps.toList.map fun c => (⟨#[c]⟩ : Str)
 rw [Array.toList_append, List.map_append]
theorem chars_jn : ∀ ps : List Str, chars (jn ps) = ps.flatMap chars
 | [] => rfl
 | s :: ps => (chars_app _ _).trans (congrArg (chars s ++ ·) (chars_jn ps))
theorem chars_len (s : Str) : (chars s).length = s.length := List.length_map ..
theorem app_len (a b : Str) : (a ++ b).length = a.length + b.length := by rw [<- chars_len, chars_app, List.length_append, chars_len, chars_len]
theorem isQ_len {s : Str} (h : isQ s = true) : s.length = 1 := (by decide : ∀ s ∈ [attS "p", attS "q", attS "r", attS "s"], s.length = 1) s (of_decide_eq_true h)
theorem notQ {s : Str} (h : 2 <= s.length) : isQ s = false := by
 cases q : isQ s with
 | false => rfl
 | true => rw [isQ_len q] at h; exact absurd h (by decide)
theorem ok_len {p : Str} (h : okPc p = true) : 2 <= p.length /\ p.length <= 20 := of_decide_eq_true (Bool.and_eq_true_iff.mp h).1
theorem piece_ok (c0 : Int) {k : Nat} (hk : k < 6) : okPc (piece c0 k) = true := wr_ok _ (wd_lt _ hk) _ (sty_lt _ _) _ (Nat.mod_lt _ (by decide))
theorem jn_len : ∀ ps : List Str, (∀ p ∈ ps, okPc p = true) -> (jn ps).length <= 20 * ps.length /\ (ps ≠ [] -> 2 <= (jn ps).length)
 | [], _ => ⟨Nat.le_refl _, fun h => absurd rfl h⟩
 | s :: ps, h => by
  have hs := ok_len (h s (.head _))
  have ih := (jn_len ps fun p hp => h p (.tail _ hp)).1
  rw [jn_c, app_len, List.length_cons]
  exact ⟨by lia, fun _ => by lia⟩
theorem pcs_ok (c0 : Int) : ∀ p ∈ pcs c0, okPc p = true := fun p hp => by
 obtain ⟨k, hk, rfl⟩ : ∃ k, k < 6 /\ piece c0 k = p := by
  have h : p ∈ (List.range 6).map (piece c0) := hp
  obtain ⟨k, hk, e⟩ := List.mem_map.mp h
  exact ⟨k, List.mem_range.mp hk, e⟩
 exact piece_ok c0 hk
theorem join_of {b : Nat} {σ : List O} {ps : List Str} (h : ∀ p ∈ ps, okPc p = true) (hl : ps.length <= 10) (hne : ps ≠ []) : callBm b "str.join" (.str Str.empty) [.list (strL ps)] σ = some (.str (jn ps), σ) := by
 obtain ⟨h1, h2⟩ := jn_len ps h
 refine bindR (a := Str.empty) (σ1 := σ) rfl (bindR (a := V.list (strL ps)) (σ1 := σ) rfl (bindR (a := strL ps) (σ1 := σ) rfl (bindR (guardE rfl) (bindR (liftE (joinV_str ps)) (bindR (guardE ?_) rfl)))))
 rw [notQ (h2 hne), decide_eq_true (show (strL ps).length <= lim /\ (jn ps).length <= lim from ⟨by unfold strL; rw [List.length_map]; show _ <= 100000; lia, by show _ <= 100000; lia⟩)]; rfl
noncomputable def CH (s : Str) : List V := (chars s).map .str
noncomputable def sg (c0 : Int) : Nat -> List V
 | 0 => [.str "z"]
 | k + 1 => CH (piece c0 (5 - k)) ++ sg c0 k
noncomputable def textOf (c0 : Int) : Str := jn (pcs c0) ++ "z"
theorem text_sg (c0 : Int) : (chars (textOf c0)).map V.str = sg c0 6 := by
 unfold textOf
 rw [chars_app, chars_jn]
 show ((chars (piece c0 0) ++ (chars (piece c0 1) ++ (chars (piece c0 2) ++ (chars (piece c0 3) ++ (chars (piece c0 4) ++ (chars (piece c0 5) ++ [])))))) ++ chars "z").map V.str = CH (piece c0 0) ++ (CH (piece c0 1) ++ (CH (piece c0 2) ++ (CH (piece c0 3) ++ (CH (piece c0 4) ++ (CH (piece c0 5) ++ [V.str "z"])))))
 simp only [List.append_assoc, List.nil_append, List.map_append]; rfl
theorem text_q (c0 : Int) : ((chars (textOf c0)).all fun x => !isQ x) = true := by
 unfold textOf
 rw [chars_app, chars_jn, List.all_append, List.all_flatMap, Bool.and_eq_true]
 exact ⟨List.all_eq_true.mpr fun p hp => (Bool.and_eq_true_iff.mp (pcs_ok c0 p hp)).2, by decide⟩
section
variable {c : Nat -> Int} {a : V}
noncomputable def t6 (a : V) (c : Nat -> Int) : List O := ST false [a, firstV, cellsV c, .dict (wtab c 6), wordsV (c 0), .list (strL (pcs (c 0)))] []
noncomputable def lexA (ln : Int) (sg pb : List V) : List O := [.cell (some (.ref 21)), .list sg, lexO ln 20 23, .list pb]
noncomputable def i6 : Expr := eAt (eA (sE (s213 6))) 0
theorem x6 : Step 6 [namesV] [a, firstV, cellsV c, .dict (wtab c 6), wordsV (c 0), .list (strL (pcs (c 0)))] false [] [namesV] [a, firstV, cellsV c, .dict (wtab c 6), wordsV (c 0), .list (strL (pcs (c 0))), .inst 101 22] true (lexA 1 (sg (c 0) 6) []) := by
 have hj := jn_len (pcs (c 0)) (pcs_ok _)
 have h1 : (lv 116).ev (eAt (eA i6) 0) (fr213 [namesV]) (t6 a c) = some (.str (textOf (c 0)), t6 a c) := by
  refine ev_bin (L := lv 115) (e := eAt (eA i6) 0) (a := .str (jn (pcs (c 0)))) (σ1 := t6 a c) rfl ?_ (b := .str "z") (σ2 := t6 a c) (by kernel_rfl) ?_
  ·exact ev_meth (L := lv 114) (e := eL (eAt (eA i6) 0)) (a := .str Str.empty) (σ1 := t6 a c) (t := .bi "str.join") rfl (by kernel_rfl) (by kernel_rfl) (vs := [.list (strL (pcs (c 0)))]) (σ2 := t6 a c) (by kernel_rfl) (join_of (pcs_ok _) (show 6 <= 10 by decide) nofun)
  ·refine bindR (a := ("z" : Str)) (σ1 := t6 a c) rfl (bindR (guardE ?_) rfl)
   have h2 := hj.2 nofun
   have h3 : (jn (pcs (c 0)) ++ ("z" : Str)).length = (jn (pcs (c 0))).length + 1 := app_len _ _
   rw [notQ (by lia), decide_eq_true (by show _ + 1 <= 100000; have := hj.1; show _; have e : (pcs (c 0)).length = 6 := rfl; lia : (jn (pcs (c 0))).length + Str.length "z" <= lim)]; rfl
 have h2 : (lv 117).ev i6 (fr213 [namesV]) (t6 a c) = some (.strm 20, ST true [a, firstV, cellsV c, .dict (wtab c 6), wordsV (c 0), .list (strL (pcs (c 0)))] [.cell (some (.ref 21)), .list (sg (c 0) 6)]) := by
  refine ev_call (L := lv 116) (e := i6) (a := .con (.ref 161)) (σ1 := t6 a c) rfl (by kernel_rfl) rfl (eVc rfl h1 evs_nil) ?_
  refine Eq.trans (b := (guardM (decide ((textOf (c 0)).length <= lim) && (chars (textOf (c 0))).all fun c => !isQ c) >>= fun _ => (do
   let c' <- alloc (.cell Option.none)
   let k <- alloc (.list ((chars (textOf (c 0))).map .str))
   put c' (.cell (some (.ref k)))
   let o <- look 0
   guardM (isTab o)
   putR 0 (.tab true) (.strm c') : M V)) (t6 a c)) (by kernel_rfl) ?_
  rw [text_sg]
  refine bindR (guardE ?_) (by kernel_rfl)
  rw [text_q, decide_eq_true (by show _ <= 100000; unfold textOf; rw [app_len]; have := hj.1; show _ + 1 <= _; have e : (pcs (c 0)).length = 6 := rfl; lia : (textOf (c 0)).length <= lim)]; rfl
 have h3 : evA (lv 118) (sE (s213 6)) (fr213 [namesV]) (t6 a c) = some (.inst 101 22, ST true [a, firstV, cellsV c, .dict (wtab c 6), wordsV (c 0), .list (strL (pcs (c 0)))] (lexA 1 (sg (c 0) 6) [])) :=
  ev_call (L := lv 117) (e := sE (s213 6)) (a := .con (.ref 101)) (σ1 := t6 a c) rfl (by kernel_rfl) rfl (eVc rfl h2 evs_nil) (by kernel_rfl)
 exact st_as rfl h3 (by kernel_rfl)
end
noncomputable def lnA : Nat -> Int -> Int
 | 0, ln => ln
 | n + 1, ln => lnA n ln + 1
theorem lnA_eq : ∀ (n : Nat) (ln : Int), lnA n ln = ln + n
 | 0, ln => (Int.add_zero _).symm
 | n + 1, ln => by
  show lnA n ln + 1 = _
  rw [lnA_eq n ln]; lia
noncomputable def nls (p : Str) : Nat := (chars p).count ("\n" : Str)
theorem l6 {α : Type} {F G : Nat -> α} (a : F 0 = G 0) (b : F 1 = G 1) (c : F 2 = G 2) (d : F 3 = G 3) (e : F 4 = G 4) (f : F 5 = G 5) : ∀ i, i < 6 -> F i = G i := en (n := 6) (show [F 0, F 1, F 2, F 3, F 4, F 5] = [G 0, G 1, G 2, G 3, G 4, G 5] by rw [a, b, c, d, e, f])
noncomputable abbrev m3 {α : Type} (f : Nat -> Nat -> α) : List (List α) := (List.range 3).map fun s => (List.range 4).map (f s)
noncomputable def tL (m b : Nat) (o : Nat -> O) (ln : Int) (r : List V) (i s k : Nat) : Option (V × List O) := (lv (m + 30)).call b (.con (.ref 91)) [.inst 101 22] (SO 20 o ++ lexA ln (CH (wr i s k) ++ r) [])
noncomputable def tR (o : Nat -> O) (ln : Int) (r : List V) (i s k : Nat) : Option (V × List O) := some (.str (nm i), SO 20 o ++ lexA (lnA (nls (wr i s k)) ln) r [])
section
variable {m i s k b : Nat} {o : Nat -> O} {ln : Int} {r : List V}
theorem tk0 : m3 (tL m b o ln r 0) = m3 (tR o ln r 0) := by kernel_rfl
theorem tk1 : m3 (tL m b o ln r 1) = m3 (tR o ln r 1) := by kernel_rfl
theorem tk2 : m3 (tL m b o ln r 2) = m3 (tR o ln r 2) := by kernel_rfl
theorem tk3 : m3 (tL m b o ln r 3) = m3 (tR o ln r 3) := by kernel_rfl
theorem tk4 : m3 (tL m b o ln r 4) = m3 (tR o ln r 4) := by kernel_rfl
theorem tk5 : m3 (tL m b o ln r 5) = m3 (tR o ln r 5) := by kernel_rfl
theorem tok (hi : i < 6) (hs : s < 3) (hk : k < 4) : tL m b o ln r i s k = tR o ln r i s k := en2 (l6 (F := fun i => m3 (tL m b o ln r i)) (G := fun i => m3 (tR o ln r i)) tk0 tk1 tk2 tk3 tk4 tk5 i hi) s hs k hk
end
section
noncomputable def lnS (c0 : Int) : Nat -> Int
 | 0 => 1
 | k + 1 => lnA (nls (piece c0 k)) (lnS c0 k)
variable {c : Nat -> Int} {a : V}
noncomputable def c7 (a : V) (c : Nat -> Int) : List V := [a, firstV, cellsV c, .dict (wtab c 6), wordsV (c 0), .list (strL (pcs (c 0))), .inst 101 22]
noncomputable def t7 (a : V) (c : Nat -> Int) (k : Nat) : List O := ST true (c7 a c) (lexA (lnS (c 0) k) (sg (c 0) (6 - k)) [])
noncomputable def heardV (c0 : Int) : V := .list (six fun k => .tup [.str (nm (wd c0 k)), .int (lnS c0 (k + 1))])
theorem x7 : Step 7 [namesV] (c7 a c) true (lexA 1 (sg (c 0) 6) []) [namesV, heardV (c 0)] (c7 a c) true (lexA (lnS (c 0) 6) [.str "z"] []) := by
 have ht : turns noChk (turn1 (lv 118) (eG1 (lcE 7) 0) (cfr (lcE 7) (fr213 [namesV]) (t7 a c 0)) (emitL (lv 118) (lcE 7))) (it 6) (t7 a c 0) = some ((List.range' 0 6).flatMap fun k => [V.tup [.str (nm (wd (c 0) k)), .int (lnS (c 0) (k + 1))]], t7 a c 6) := by
  refine turns_n (S := t7 a c) (w := fun k => [V.tup [.str (nm (wd (c 0) k)), .int (lnS (c 0) (k + 1))]]) fun k hk => ?_
  refine tGo (fr1 := cf1 (lcE 7) (fr213 [namesV]) (t7 a c 0) [iv k]) (by kernel_rfl) rfl (mOf ?_)
  have hs := en (f := fun k => t7 a c k) (g := fun k => SO 20 (oOf (t7 a c 0)) ++ lexA (lnS (c 0) k) (CH (piece (c 0) k) ++ sg (c 0) (5 - k)) []) (n := 6) (by kernel_rfl) k hk
  have hs2 := en (f := fun k => t7 a c (k + 1)) (g := fun k => SO 20 (oOf (t7 a c 0)) ++ lexA (lnA (nls (piece (c 0) k)) (lnS (c 0) k)) (sg (c 0) (5 - k)) []) (n := 6) (by kernel_rfl) k hk
  have h1 : (lv 117).ev (eAt (eA (eL (lcE 7))) 0) (cf1 (lcE 7) (fr213 [namesV]) (t7 a c 0) [iv k]) (t7 a c k) = some (.str (nm (wd (c 0) k)), t7 a c (k + 1)) := by
   refine ev_meth (L := lv 116) (e := eAt (eA (eL (lcE 7))) 0) (a := .inst 101 22) (σ1 := t7 a c k) (t := .fn 91) rfl (by kernel_rfl) (by kernel_rfl) evs_nil ?_
   rw [hs, hs2]
   exact tok (m := 86) (wd_lt _ hk) (sty_lt _ _) (Nat.mod_lt _ (by decide))
  have h2 : (lv 117).ev (eAt (eA (eL (lcE 7))) 1) (cf1 (lcE 7) (fr213 [namesV]) (t7 a c 0) [iv k]) (t7 a c (k + 1)) = some (.int (lnS (c 0) (k + 1)), t7 a c (k + 1)) := by kernel_rfl
  refine ev_tup (L := lv 117) (e := eL (lcE 7)) (vs := [.str (nm (wd (c 0) k)), .int (lnS (c 0) (k + 1))]) rfl ?_ rfl
  exact Eq.trans (b := evs (lv 117) [eAt (eA (eL (lcE 7))) 0, eAt (eA (eL (lcE 7))) 1] (cf1 (lcE 7) (fr213 [namesV]) (t7 a c 0) [iv k]) (t7 a c k)) (by kernel_rfl) (eVc rfl h1 (eVc rfl h2 evs_nil))
 refine st_as rfl (v := heardV (c 0)) (σ1 := t7 a c 6) ?_ (by kernel_rfl)
 exact ev_lc (e := lcE 7) rfl (by kernel_rfl) (items := it 6) (by kernel_rfl) (by kernel_rfl) ht (by kernel_rfl) (by kernel_rfl)
end
mutual
theorem beq_refl' : ∀ v : V, v.simple = true -> V.beq v v = true
 | .none => fun _ => rfl
 | .bool b => fun _ => beq_self_eq_true (some b)
 | .int b => fun _ => beq_self_eq_true (some b)
 | .str b => fun _ => beq_self_eq_true (some b)
 | .tup vs => fun h => beqs_refl' vs h
 | .list vs => fun h => beqs_refl' vs h
 | .dict d => fun h => beqd_refl' d h
 | .ref _ | .inst _ _ | .con _ | .strm _ | .meth _ _ _ | .view _ _ | .rng _ _ _ => fun h => absurd h Bool.false_ne_true
theorem beqs_refl' : ∀ vs : List V, V.simples vs = true -> V.beqs vs vs = true
 | [], _ => rfl
 | v :: vs, h => by
  have h : (v.simple && V.simples vs) = true := h
  rw [Bool.and_eq_true] at h
  show (V.beq v v && V.beqs vs vs) = true
  rw [beq_refl' v h.1, beqs_refl' vs h.2]; rfl
theorem beqd_refl' : ∀ d : List (Str × V), V.simpled d = true -> V.beqd d d = true
 | [], _ => rfl
 | (k, v) :: d, h => by
  have h : (v.simple && V.simpled d) = true := h
  rw [Bool.and_eq_true] at h
  show (k == k && (V.beq v v && V.beqd d d)) = true
  rw [beq_refl' v h.1, beqd_refl' d h.2, beq_self_eq_true k]; rfl
end
theorem ne_self {vs : List V} {σ : List O} (h1 : V.simples vs = true) (h2 : V.deps vs 20 = true) : cmp .NotEq (.list vs) (.list vs) σ = some (false, σ) := by
 have e : veq (.list vs) (.list vs) = some true := by
  show veqL vs vs = _
  unfold veqL
  cases h : vs.isEmpty with
  | true => rfl
  | false => show (if V.beqs vs vs && V.deps vs 20 then some true else none) = _; rw [beqs_refl' vs h1, h2]; rfl
 exact bindR (liftE e) rfl
theorem lnS_eq (c0 : Int) : ∀ k, k <= 6 -> lnS c0 k = 1 + ((chars (jn ((pcs c0).take k))).count ("\n" : Str) : Nat)
 | 0, _ => rfl
 | k + 1, hk => by
  show lnA (nls (piece c0 k)) (lnS c0 k) = _
  have h : (pcs c0)[k]? = some (piece c0 k) := en (f := fun k => (pcs c0)[k]?) (g := fun k => some (piece c0 k)) (n := 6) rfl k hk
  rw [lnA_eq, lnS_eq c0 k (Nat.le_of_succ_le hk), chars_jn, chars_jn, List.take_add_one, h, List.flatMap_append, List.count_append, Option.toList_some, List.flatMap_singleton]
  unfold nls
  lia
section
variable {c : Nat -> Int} {a : V}
noncomputable def t8 (a : V) (c : Nat -> Int) : List O := ST true (c7 a c) (lexA (lnS (c 0) 6) [.str "z"] [])
noncomputable def l8 (c0 : Int) : List V := [namesV, heardV c0]
noncomputable def r8 : Expr := eR (sT (s213 8))
noncomputable def j8 : Expr := eR (eAt (eA (eL r8)) 1)
theorem x8 : Step 8 (l8 (c 0)) (c7 a c) true (lexA (lnS (c 0) 6) [.str "z"] []) (l8 (c 0)) (c7 a c) true (lexA (lnS (c 0) 6) [.str "z"] []) := by
 have ht : turns noChk (turn1 (lv 116) (eG1 r8 0) (cfr r8 (fr213 (l8 (c 0))) (t8 a c)) (emitL (lv 116) r8)) (it 6) (t8 a c) = some ((List.range' 0 6).flatMap fun k => [V.tup [.str (nm (wd (c 0) k)), .int (lnS (c 0) (k + 1))]], t8 a c) := by
  refine turns_n (S := fun _ => t8 a c) (w := fun k => [V.tup [.str (nm (wd (c 0) k)), .int (lnS (c 0) (k + 1))]]) fun k hk => ?_
  refine tGo (fr1 := cf1 r8 (fr213 (l8 (c 0))) (t8 a c) [iv k]) (by kernel_rfl) rfl (mOf ?_)
  have h1 := en (f := fun k => (lv 115).ev (eAt (eA (eL r8)) 0) (cf1 r8 (fr213 (l8 (c 0))) (t8 a c) [iv k]) (t8 a c)) (g := fun k => some (.str (nm (wd (c 0) k)), t8 a c)) (n := 6) (by kernel_rfl) k hk
  have hp := pcs_ok (c 0)
  have hp2 : ∀ p ∈ (pcs (c 0)).take (k + 1), okPc p = true := fun p h => hp p (List.mem_of_mem_take h)
  have hj := (jn_len _ hp2).1
  have h2 : (lv 113).ev (eL (eL j8)) (cf1 r8 (fr213 (l8 (c 0))) (t8 a c) [iv k]) (t8 a c) = some (.str (jn ((pcs (c 0)).take (k + 1))), t8 a c) := by
   have hv := en (f := fun k => evs (lv 112) (eA (eL (eL j8))) (cf1 r8 (fr213 (l8 (c 0))) (t8 a c) [iv k]) (t8 a c)) (g := fun k => some ([.list (strL ((pcs (c 0)).take (k + 1)))], t8 a c)) (n := 6) (by kernel_rfl) k hk
   exact ev_meth (L := lv 112) (e := eL (eL j8)) (a := .str Str.empty) (σ1 := t8 a c) (t := .bi "str.join") rfl (by kernel_rfl) (by kernel_rfl) hv (join_of hp2 (Nat.le_trans (List.length_take_le _ _) (by lia)) nofun)
  have h3 : (lv 115).ev (eAt (eA (eL r8)) 1) (cf1 r8 (fr213 (l8 (c 0))) (t8 a c) [iv k]) (t8 a c) = some (.int (lnS (c 0) (k + 1)), t8 a c) := by
   rw [lnS_eq _ _ hk]
   refine ev_bin (L := lv 114) (e := eAt (eA (eL r8)) 1) (a := .int 1) (σ1 := t8 a c) rfl (by kernel_rfl) (b := .int ((chars (jn ((pcs (c 0)).take (k + 1)))).count ("\n" : Str) : Nat)) (σ2 := t8 a c) ?_ rfl
   refine ev_meth (L := lv 113) (e := j8) (a := .str (jn ((pcs (c 0)).take (k + 1)))) (σ1 := t8 a c) (t := .bi "str.count") rfl h2 (by kernel_rfl) (vs := [.str "\n"]) (σ2 := t8 a c) (by kernel_rfl) ?_
   refine bindR (a := jn ((pcs (c 0)).take (k + 1))) (σ1 := t8 a c) rfl (bindR (a := V.str "\n") (σ1 := t8 a c) rfl (bindR (a := ("\n" : Str)) (σ1 := t8 a c) rfl (bindR (guardE (decide_eq_true ⟨rfl, ?_⟩)) rfl)))
   have := List.length_take_le (k + 1) (pcs (c 0))
   show _ <= 100000
   lia
  refine ev_tup (L := lv 115) (e := eL r8) (vs := [.str (nm (wd (c 0) k)), .int (lnS (c 0) (k + 1))]) rfl ?_ rfl
  exact Eq.trans (b := evs (lv 115) [eAt (eA (eL r8)) 0, eAt (eA (eL r8)) 1] (cf1 r8 (fr213 (l8 (c 0))) (t8 a c) [iv k]) (t8 a c)) (by kernel_rfl) (eVc rfl h1 (eVc rfl h3 evs_nil))
 have hr : (lv 117).ev (eR (sT (s213 8))) (fr213 (l8 (c 0))) (t8 a c) = some (heardV (c 0), t8 a c) :=
  ev_lc (L := lv 116) (e := r8) rfl (by kernel_rfl) (items := it 6) (by kernel_rfl) (by kernel_rfl) ht (by kernel_rfl) (by kernel_rfl)
 exact st_no (n := 117) rfl rfl (tr_cmp (L := lv 117) (e := sT (s213 8)) (a := heardV (c 0)) (σ1 := t8 a c) rfl (by kernel_rfl) hr (ne_self rfl rfl))
end
noncomputable def colOf (c0 : Int) : List Nat := ordG 0 4 c0 [0, 1, 2, 3]
noncomputable def colsOf (c0 : Int) : List (Nat × Int) := (colOf c0).map fun i => (i, -1 - (i : Int))
theorem col_perm (c0 : Int) : (colOf c0).Perm [0, 1, 2, 3] := ord_perm 4 _ _ rfl
theorem col_lt (c0 : Int) : ∀ i ∈ colOf c0, i < 4 := fun i hi => (by decide : ∀ x ∈ [0, 1, 2, 3], x < 4) _ ((col_perm c0).mem_iff.mp hi)
theorem cols_lt (c0 : Int) : ∀ p ∈ colsOf c0, p.1 < 4 := fun p hp => by
 obtain ⟨i, hi, rfl⟩ := List.mem_map.mp hp
 exact col_lt c0 i hi
noncomputable def colsV (c0 : Int) : V := .list ((colsOf c0).map colV)
noncomputable def Wf (c : Nat -> Int) (t : Str) : Nat -> Int := wacc c (6 - nameL.idxOf t)
noncomputable def Sf (c : Nat -> Int) (t : Str) : Int := tot c (nameL.idxOf t)
noncomputable def TabOk (Wd : List (Str × V)) (W : Str -> Nat -> Int) (S : Str -> Int) (ts : List Str) : Prop := ∀ t ∈ ts, Wd.lookup t = some (thE (W t) t (S t))
theorem tab_ok (c : Nat -> Int) : TabOk (wtab c 6) (Wf c) (Sf c) nameL := fun t ht => by
 have h : ∀ k, k < 6 -> (wtab c 6).lookup (nm k) = some (thE (Wf c (nm k)) (nm k) (Sf c (nm k))) := en (by kernel_rfl)
 obtain ⟨k, hk, rfl⟩ := List.getElem_of_mem ht
 have e : nameL[k] = nm k := by unfold nm; rw [List.getD_eq_getElem?_getD, List.getElem?_eq_getElem hk]; rfl
 rw [e]
 exact h k hk
theorem nm_mem {i : Nat} (hi : i < 6) : nm i ∈ nameL := (by decide : ∀ i, i < 6 -> nm i ∈ nameL) i hi
noncomputable def wordsL (c0 : Int) : List Str := (wdOf c0).map nm
theorem words_perm (c0 : Int) : (wordsL c0).Perm nameL := (wd_perm c0).map nm
theorem words_mem (c0 : Int) : ∀ t ∈ wordsL c0, t ∈ nameL := fun t ht => (words_perm c0).mem_iff.mp ht
theorem words_nodup (c0 : Int) : (wordsL c0).Nodup := (words_perm c0).nodup_iff.mpr (by decide)
noncomputable def insP (cols : List (Nat × Int)) (W : Str -> Nat -> Int) (line : List Str) (x : Str) : Nat := (line.filter fun o => decide (cmpC cols (W o) (W x) <= 0)).length
noncomputable def insL (cols : List (Nat × Int)) (W : Str -> Nat -> Int) (line : List Str) (x : Str) : List Str := line.take (insP cols W line x) ++ x :: line.drop (insP cols W line x)
noncomputable def lineL (c : Nat -> Int) : List Str := (wordsL (c 0)).foldl (insL (colsOf (c 0)) (Wf c)) []
section
variable {c : Nat -> Int} {a : V}
noncomputable def os9 (c : Nat -> Int) : List O := lexA (lnS (c 0) 6) [.str "z"] []
noncomputable def t9 (a : V) (c : Nat -> Int) : List O := ST true (c7 a c) (os9 c)
theorem order_cols (n : Int) : ordG .none 4 n [iv 0, iv 1, iv 2, iv 3] = (colOf n).map iv := ord_map (d := 0) (f := iv) 4 n [0, 1, 2, 3] rfl
theorem x9 : Step 9 (l8 (c 0)) (c7 a c) true (os9 c) (l8 (c 0)) (c7 a c ++ [colsV (c 0)]) true (os9 c) := by
 have hi : iterSrcC (lv 118) (eG1 (lcE 9) 0).target (eG1 (lcE 9) 0).iter (fr213 (l8 (c 0))) (t9 a c) = some (((colOf (c 0)).map iv, noChk), t9 a c) := by
  refine Eq.trans (b := ((lv 118).ev (eG1 (lcE 9) 0).iter (fr213 (l8 (c 0))) >>= itOfC) (t9 a c)) (by kernel_rfl) ?_
  refine bindR (a := .list ((colOf (c 0)).map iv)) (σ1 := t9 a c) ?_ (by kernel_rfl)
  rw [<- order_cols]
  exact ev_call (L := lv 117) (e := (eG1 (lcE 9) 0).iter) (a := .con (.ref 173)) (σ1 := t9 a c) rfl (by kernel_rfl) rfl (vs := [.int (c 0), .list [iv 0, iv 1, iv 2, iv 3]]) (σ2 := t9 a c) (by kernel_rfl) (call_order4 (m := 103) (o := oOf (t9 a c)) (b := 1) rfl)
 have ht : turns noChk (turn1 (lv 118) (eG1 (lcE 9) 0) (cfr (lcE 9) (fr213 (l8 (c 0))) (t9 a c)) (emitL (lv 118) (lcE 9))) ((colOf (c 0)).map iv) (t9 a c) = some ((colsOf (c 0)).map colV, t9 a c) := by kernel_rfl
 refine st_as rfl (v := colsV (c 0)) (σ1 := t9 a c) ?_ (by kernel_rfl)
 exact ev_lc (e := lcE 9) rfl (by kernel_rfl) hi (by kernel_rfl) ht (by kernel_rfl) (by kernel_rfl)
noncomputable def c10 (a : V) (c : Nat -> Int) : List V := c7 a c ++ [colsV (c 0)]
noncomputable def os10 (c : Nat -> Int) : List O := os9 c ++ [compO ((colsOf (c 0)).map colV)]
theorem x10 : Step 10 (l8 (c 0)) (c10 a c) true (os9 c) (l8 (c 0)) (c10 a c ++ [.inst 38 24]) true (os10 c) := by unfold Step; kernel_rfl
end
theorem dict_get {d : List (Str × V)} {x : Str} {v : V} {σ : List O} (h : d.lookup x = some v) : getItem (.dict d) (.str x) σ = some (v, σ) := bindR (a := d) (σ1 := σ) rfl (liftE h)
theorem is_true {b : Bool} {σ : List O} : cmp .Is (.bool b) (.bool true) σ = some (b, σ) := by cases b <;> rfl
theorem le_call {m b : Nat} {σ : List O} {x y : Int} : (lv (m + 4)).call b (.con (.ref 112)) [.int x, .int y] σ = some (.bool (decide (x <= y)), σ) := by rw [call_le, List.take_length]
theorem flat_filter {p : Str -> Bool} : ∀ L : List Str, (L.flatMap fun o => if p o then [V.str o] else []) = strL (L.filter p)
 | [] => rfl
 | x :: L => by
  rw [List.flatMap_cons, flat_filter L, List.filter_cons]
  cases p x <;> rfl
theorem beqs_strL (L : List Str) : V.beqs (strL L) (strL L) = true := beqs_refl' _ (by
 rw [sIf]
 exact fun v hv => by
  obtain ⟨t, -, rfl⟩ := List.mem_map.mp hv
  rfl)
theorem sSL (L : List Str) : V.simples (strL L) = true := by
 rw [sIf]
 exact fun v hv => by
  obtain ⟨t, -, rfl⟩ := List.mem_map.mp hv
  rfl
theorem chk_ref {σ : List O} {k : Nat} {L : List Str} (h : σ[k]? = some (.list (strL L))) : chkOf k (strL L) σ = true := by
 unfold chkOf
 rw [h]
 exact beqs_strL L
theorem o_ins {σ : List O} {N i : Nat} {l : List V} {v : V} {b : Nat} (h : σ[N]? = some (.list l)) (hb : (decide (b <= N) || v.simple) = true) (hi : i <= l.length) (hl : l.length < 100000) : callBm b "list.insert" (.ref N) [.int i, v] σ = some (.none, σ.set N (.list (l.take i ++ v :: l.drop i))) := by
 have hN : N < σ.length := (List.getElem?_eq_some_iff.mp h).1
 refine bindR (a := N) (σ1 := σ) rfl (bindR (a := (V.int i, v)) (σ1 := σ) rfl (bindR (a := (i : Int)) (σ1 := σ) rfl (bindR (a := l) (σ1 := σ) (bindR (a := .list l) (σ1 := σ) ?_ rfl) (bindR (guardE (decide_eq_true ⟨Int.natCast_nonneg i, Int.ofNat_le.mpr hi, hl⟩)) (bindR (guardE hb) ?_)))))
 ·show (σ[N]?).map _ = _
  rw [h]; rfl
 ·show (if N < σ.length then _ else _) = _
  rw [if_pos hN]; rfl
theorem len_call {m b : Nat} {σ : List O} {l : List V} : (lv (m + 1)).call b (.con (.builtin "len")) [.list l] σ = some (.int l.length, σ) := by kernel_rfl
noncomputable def b183 (i : Nat) : Stmt := stL (fiOf 183).body i
noncomputable def q183 (i : Nat) : Stmt := stL (sA (b183 1)) i
noncomputable def l183 : Expr := eAt (eA (sE (q183 0))) 0
noncomputable def e183 : Expr := eAt (eG1 l183 0).ifs 0
section
variable {m : Nat} {o : Nat -> O} {cols : List (Nat × Int)} {Wd : List (Str × V)} {W : Str -> Nat -> Int} {S : Str -> Int} {x y : Str} {hs L : List Str} {p n : Option V}
noncomputable def F183 (hs : List Str) (p : Option V) : Fr := frA 183 [some (.list (strL hs)), some (.ref 28), p] [("name", 27), ("comp", 26), ("worths", 25)] 25
noncomputable def S183 (o : Nat -> O) (cols : List (Nat × Int)) (Wd : List (Str × V)) (n : Option V) (L : List Str) : List O := SO 24 o ++ [compO (cols.map colV), .cell (some (.dict Wd)), .cell (some (.inst 38 24)), .cell n, .list (strL L)]
theorem li_test (hc : ∀ p ∈ cols, p.1 < 4) (hy : Wd.lookup y = some (thE (W y) y (S y))) (hx : Wd.lookup x = some (thE (W x) x (S x))) :
  turn1 (lv (m + 20)) (eG1 l183 0) (cfr l183 (F183 hs p) (S183 o cols Wd (some (.str x)) L)) (emitL (lv (m + 20)) l183) (.str y) (S183 o cols Wd (some (.str x)) L) = some (if decide (cmpC cols (W y) (W x) <= 0) then [V.str y] else [], S183 o cols Wd (some (.str x)) L) := by
 refine turn_if (fr1 := cf1 l183 (F183 hs p) (S183 o cols Wd (some (.str x)) L) [.str y]) (by kernel_rfl) ?_ (by kernel_rfl)
 refine Eq.trans (b := tests (lv (m + 20)) [e183] (cf1 l183 (F183 hs p) (S183 o cols Wd (some (.str x)) L) [.str y]) (S183 o cols Wd (some (.str x)) L)) (by kernel_rfl) (tests_one ?_)
 have h1 : (lv (m + 18)).ev (eAt (eA (eL e183)) 0) (cf1 l183 (F183 hs p) (S183 o cols Wd (some (.str x)) L) [.str y]) (S183 o cols Wd (some (.str x)) L) = some (.int (cmpC cols (W y) (W x)), S183 o cols Wd (some (.str x)) L) := by
  have g1 : (lv (m + 17)).ev (eAt (eA (eAt (eA (eL e183)) 0)) 0) (cf1 l183 (F183 hs p) (S183 o cols Wd (some (.str x)) L) [.str y]) (S183 o cols Wd (some (.str x)) L) = some (thE (W y) y (S y), S183 o cols Wd (some (.str x)) L) :=
   ev_sub (L := lv (m + 16)) (e := eAt (eA (eAt (eA (eL e183)) 0)) 0) (a := .dict Wd) (σ1 := S183 o cols Wd (some (.str x)) L) rfl (by kernel_rfl) (b := .str y) (σ2 := S183 o cols Wd (some (.str x)) L) (by kernel_rfl) (dict_get hy)
  have g2 : (lv (m + 17)).ev (eAt (eA (eAt (eA (eL e183)) 0)) 1) (cf1 l183 (F183 hs p) (S183 o cols Wd (some (.str x)) L) [.str y]) (S183 o cols Wd (some (.str x)) L) = some (thE (W x) x (S x), S183 o cols Wd (some (.str x)) L) :=
   ev_sub (L := lv (m + 16)) (e := eAt (eA (eAt (eA (eL e183)) 0)) 1) (a := .dict Wd) (σ1 := S183 o cols Wd (some (.str x)) L) rfl (by kernel_rfl) (b := .str x) (σ2 := S183 o cols Wd (some (.str x)) L) (by kernel_rfl) (dict_get hx)
  exact ev_meth (L := lv (m + 17)) (e := eAt (eA (eL e183)) 0) (a := .inst 38 24) (σ1 := S183 o cols Wd (some (.str x)) L) (t := .fn 35) rfl (by kernel_rfl) (by kernel_rfl) (eVc rfl g1 (eVc rfl g2 evs_nil)) (call_cmp (m := m + 10) (k := 24) rfl hc)
 have h2 : (lv (m + 18)).ev (eAt (eA (eL e183)) 1) (cf1 l183 (F183 hs p) (S183 o cols Wd (some (.str x)) L) [.str y]) (S183 o cols Wd (some (.str x)) L) = some (.int 0, S183 o cols Wd (some (.str x)) L) := by kernel_rfl
 have h3 : (lv (m + 19)).ev (eL e183) (cf1 l183 (F183 hs p) (S183 o cols Wd (some (.str x)) L) [.str y]) (S183 o cols Wd (some (.str x)) L) = some (.bool (decide (cmpC cols (W y) (W x) <= 0)), S183 o cols Wd (some (.str x)) L) :=
  ev_call (L := lv (m + 18)) (e := eL e183) (a := .con (.ref 112)) (σ1 := S183 o cols Wd (some (.str x)) L) rfl (by kernel_rfl) rfl (eVc rfl h1 (eVc rfl h2 evs_nil)) (le_call (m := m + 14))
 exact tr_cmp (L := lv (m + 19)) (e := e183) rfl h3 (b := .bool true) (σ2 := S183 o cols Wd (some (.str x)) L) (by kernel_rfl) is_true
theorem li_turn (hc : ∀ p ∈ cols, p.1 < 4) (hl : TabOk Wd W S L) (hx : Wd.lookup x = some (thE (W x) x (S x))) (hn : L.length <= 100) :
  ∃ p', turnS (lv (m + 23)) (sT (b183 1)) (sA (b183 1)) (.str x) (F183 hs p) (S183 o cols Wd n L) = some ((.next, F183 hs p'), S183 o cols Wd (some (.str x)) (insL cols W L x)) := by
 have ht := tPu (chk := chkOf 28 (strL L)) (σ := S183 o cols Wd (some (.str x)) L) (f := turn1 (lv (m + 20)) (eG1 l183 0) (cfr l183 (F183 hs p) (S183 o cols Wd (some (.str x)) L)) (emitL (lv (m + 20)) l183)) (t := V.str) (chk_ref rfl) fun y hy => li_test (m := m) hc (hl y hy) hx
 rw [flat_filter] at ht
 have hfl : (L.filter fun o => decide (cmpC cols (W o) (W x) <= 0)).length <= L.length := List.length_filter_le ..
 have h1 : (lv (m + 21)).ev l183 (F183 hs p) (S183 o cols Wd (some (.str x)) L) = some (.list (strL (L.filter fun o => decide (cmpC cols (W o) (W x) <= 0))), S183 o cols Wd (some (.str x)) L) :=
  ev_lc (L := lv (m + 20)) (e := l183) rfl (by kernel_rfl) (chk := chkOf 28 (strL L)) (items := strL L) (by kernel_rfl) (by kernel_rfl) ht (decide_eq_true (by unfold strL; rw [List.length_map]; show _ <= 100000; lia)) (sSL _)
 have hi : insP cols W L x <= (strL L).length := by unfold strL; rw [List.length_map]; exact hfl
 have h2 : (lv (m + 22)).ev (sE (q183 0)) (F183 hs p) (S183 o cols Wd (some (.str x)) L) = some (iv (insP cols W L x), S183 o cols Wd (some (.str x)) L) := by
  have e : (strL (L.filter fun o => decide (cmpC cols (W o) (W x) <= 0))).length = insP cols W L x := List.length_map ..
  rw [<- e]
  exact ev_call (L := lv (m + 21)) (e := sE (q183 0)) (a := .con (.builtin "len")) (σ1 := S183 o cols Wd (some (.str x)) L) rfl (by kernel_rfl) rfl (eVc rfl h1 evs_nil) (len_call (m := m + 20))
 have h3 : exStep (lv (m + 22)) (q183 0) (F183 hs p) (S183 o cols Wd (some (.str x)) L) = some ((.next, F183 hs (some (iv (insP cols W L x)))), S183 o cols Wd (some (.str x)) L) := st_as rfl h2 (by kernel_rfl)
 have h4 : (lv (m + 22)).ev (sE (q183 1)) (F183 hs (some (iv (insP cols W L x)))) (S183 o cols Wd (some (.str x)) L) = some (.none, S183 o cols Wd (some (.str x)) (insL cols W L x)) := by
  refine ev_meth (L := lv (m + 21)) (e := sE (q183 1)) (a := .ref 28) (σ1 := S183 o cols Wd (some (.str x)) L) (t := .bi "list.insert") rfl (by kernel_rfl) (by kernel_rfl) (vs := [iv (insP cols W L x), .str x]) (σ2 := S183 o cols Wd (some (.str x)) L) (by kernel_rfl) ?_
  refine (o_ins (N := 28) (l := strL L) rfl rfl hi (by unfold strL; rw [List.length_map]; lia)).trans ?_
  have e : (strL L).take (insP cols W L x) ++ V.str x :: (strL L).drop (insP cols W L x) = strL (insL cols W L x) := by
   unfold strL insL
   rw [List.map_append, List.map_cons, List.map_take, List.map_drop]
  rw [e]; rfl
 refine ⟨some (iv (insP cols W L x)), bindR (a := F183 hs p) (σ1 := S183 o cols Wd (some (.str x)) L) (by kernel_rfl) ?_⟩
 refine Eq.trans (b := exL (lv (m + 22)) [q183 0, q183 1] (F183 hs p) (S183 o cols Wd (some (.str x)) L)) (by kernel_rfl) ?_
 exact xNx h3 (xNx (st_expr rfl h4) exL_nil)
theorem insL_len : (insL cols W L x).length = L.length + 1 := by
 have : insP cols W L x <= L.length := List.length_filter_le ..
 unfold insL
 rw [List.length_append, List.length_cons, List.length_take, List.length_drop]; lia
theorem insL_mem (h : y ∈ insL cols W L x) : y = x ∨ y ∈ L := by
 unfold insL at h
 rcases List.mem_append.mp h with h | h
 ·exact .inr (List.mem_of_mem_take h)
 ·rcases List.mem_cons.mp h with h | h
  ·exact .inl h
  ·exact .inr (List.mem_of_mem_drop h)
theorem li_for (hc : ∀ p ∈ cols, p.1 < 4) : ∀ (r L : List Str) (p n : Option V), TabOk Wd W S r -> TabOk Wd W S L -> L.length + r.length <= 100 ->
  ∃ p' n', forV noChk (turnS (lv (m + 23)) (sT (b183 1)) (sA (b183 1))) ((lv (m + 23)).exs []) (strL r) (F183 hs p) (S183 o cols Wd n L) = some ((.next, F183 hs p'), S183 o cols Wd n' (r.foldl (insL cols W) L))
 | [], L, p, n, _, _, _ => ⟨p, n, rfl⟩
 | x :: r, L, p, n, hr, hl, hn => by
  rw [List.length_cons] at hn
  obtain ⟨p1, h1⟩ := li_turn (m := m) (o := o) (hs := hs) (p := p) (n := n) hc hl (hr x (.head _)) (by lia)
  obtain ⟨p2, n2, h2⟩ := li_for hc r (insL cols W L x) p1 (some (.str x)) (fun t ht => hr t (.tail _ ht)) (fun t ht => by
   rcases insL_mem ht with rfl | ht
   ·exact hr _ (.head _)
   ·exact hl t ht) (by rw [insL_len]; lia)
  exact ⟨p2, n2, fVc rfl h1 h2⟩
theorem call_line {b : Nat} (hc : ∀ p ∈ cols, p.1 < 4) (hr : TabOk Wd W S hs) (hn : hs.length <= 100) :
  (lv (m + 26)).call b (.con (.ref 183)) [.list (strL hs), .dict Wd, .inst 38 24] (SO 24 o ++ [compO (cols.map colV)]) = some (.list (strL (hs.foldl (insL cols W) [])), SO 24 o ++ [compO (cols.map colV)]) := by
 rw [call_fn (m := m + 25) rfl rfl rfl]
 refine hd fun P0 q0 => ?_
 obtain ⟨p, n, h1⟩ := li_for (m := m + 1) (o := o) (hs := hs) hc hs [] none none hr (fun _ h => (nomatch h)) (by show 0 + _ <= 100; lia)
 refine q0 ?_
 refine Eq.trans (b := ((forV noChk (turnS (lv (m + 24)) (sT (b183 1)) (sA (b183 1))) ((lv (m + 24)).exs []) (strL hs) (F183 hs none) >>= fun r => (match r.1 with | .next => exL (lv (m + 24)) [b183 2] r.2 | fl => pure (fl, r.2))) >>= fun r => endFn false (SO 24 o ++ [compO (cols.map colV)]) (flV r.1)) (S183 o cols Wd none [])) (by kernel_rfl) ?_
 exact bindR (bindR h1 (Eq.refl (some ((Fl.ret (.ref 28), F183 hs p), S183 o cols Wd n (hs.foldl (insL cols W) []))))) (endF (b := 0) (frz_list (N := 28) (by kernel_rfl) (by kernel_rfl) (sSL _)) (by kernel_rfl))
variable {c : Nat -> Int} {a : V}
noncomputable def c11 (a : V) (c : Nat -> Int) : List V := c10 a c ++ [.inst 38 24]
noncomputable def t11 (a : V) (c : Nat -> Int) : List O := ST true (c11 a c) (os10 c)
noncomputable def lnV (c : Nat -> Int) : V := .list (strL (lineL c))
theorem words_len (c0 : Int) : (wordsL c0).length = 6 := by rw [(words_perm c0).length_eq]; rfl
theorem x11 : Step 11 (l8 (c 0)) (c11 a c) true (os10 c) (l8 (c 0)) (c11 a c ++ [lnV c]) true (os10 c) := by
 have h : evA (lv 118) (lcE 11) (fr213 (l8 (c 0))) (t11 a c) = some (lnV c, t11 a c) :=
  ev_call (L := lv 117) (e := lcE 11) (a := .con (.ref 183)) (σ1 := t11 a c) rfl (by kernel_rfl) rfl (vs := [.list (strL (wordsL (c 0))), .dict (wtab c 6), .inst 38 24]) (σ2 := t11 a c) (by kernel_rfl) (call_line (m := 91) (o := oOf (t11 a c)) (cols := colsOf (c 0)) (W := Wf c) (S := Sf c) (cols_lt _) (fun t ht => tab_ok c t (words_mem _ t ht)) (by rw [words_len]; decide))
 exact st_as rfl h (by kernel_rfl)
end
end Mine
end
section
open PySem PySem.W PyProof.Rows
set_option backward.match.sparseCases false
namespace Mine
noncomputable def geL : List (Nat × Int) -> (Nat -> Int) -> (Nat -> Int) -> Prop
 | [], _, _ => True
 | (c, _) :: r, w, u => u c < w c ∨ (u c = w c /\ geL r w u)
theorem geL_c {c : Nat} {d : Int} {r : List (Nat × Int)} {w u : Nat -> Int} : geL ((c, d) :: r) w u = (u c < w c ∨ (u c = w c /\ geL r w u)) := rfl
noncomputable def NegC (cols : List (Nat × Int)) : Prop := ∀ p ∈ cols, p.2 < 0
theorem cmp_ge : ∀ {cols : List (Nat × Int)} {w u : Nat -> Int}, NegC cols -> (cmpC cols w u <= 0 ↔ geL cols w u)
 | [], w, u, _ => ⟨fun _ => trivial, fun _ => Int.le_refl _⟩
 | (c, d) :: r, w, u, h => by
  have hd := h (c, d) (.head _)
  have hd : d < 0 := hd
  have ih := cmp_ge (cols := r) (w := w) (u := u) fun p hp => h p (.tail _ hp)
  rw [cmpC_c, geL_c]
  by_cases h1 : w c < u c
  ·rw [if_pos h1]
   constructor
   ·intro h; lia
   ·rintro (h | ⟨h, -⟩) <;> lia
  ·rw [if_neg h1]
   by_cases h2 : u c < w c
   ·rw [if_pos h2]
    exact ⟨fun _ => .inl h2, fun _ => by lia⟩
   ·rw [if_neg h2, ih]
    exact ⟨fun h => .inr ⟨by lia, h⟩, fun h => by rcases h with h | h; lia; exact h.2⟩
theorem ge_trans : ∀ {cols : List (Nat × Int)} {w u v : Nat -> Int}, geL cols w u -> geL cols u v -> geL cols w v
 | [], _, _, _, _, _ => trivial
 | (c, d) :: r, w, u, v, h1, h2 => by
  rw [geL_c] at h1 h2 ⊢
  rcases h1 with h1 | ⟨h1, g1⟩ <;> rcases h2 with h2 | ⟨h2, g2⟩
  ·left; lia
  ·left; lia
  ·left; lia
  ·right; exact ⟨by lia, ge_trans g1 g2⟩
theorem ge_total : ∀ {cols : List (Nat × Int)} {w u : Nat -> Int}, ¬ geL cols w u -> geL cols u w
 | [], _, _, h => absurd trivial h
 | (c, d) :: r, w, u, h => by
  rw [geL_c] at h ⊢
  by_cases h1 : w c < u c
  ·left; exact h1
  ·by_cases h2 : u c < w c
   ·exact absurd (.inl h2) h
   ·right
    refine ⟨by lia, ge_total fun g => h (.inr ⟨by lia, g⟩)⟩
section
variable {cols : List (Nat × Int)} {W : Str -> Nat -> Int} {acc : List Str} {x : Str}
noncomputable def SortD (cols : List (Nat × Int)) (W : Str -> Nat -> Int) (l : List Str) : Prop := l.Pairwise fun a b => geL cols (W a) (W b)
open Classical in
theorem split_at (hs : SortD cols W acc) (x : Str) : ∃ A B, acc = A ++ B /\ (∀ a ∈ A, geL cols (W a) (W x)) /\ ∀ b ∈ B, ¬ geL cols (W b) (W x) := by
 induction acc with
 | nil => exact ⟨[], [], rfl, nofun, nofun⟩
 | cons a r ih =>
  have hp := List.pairwise_cons.mp hs
  by_cases h : geL cols (W a) (W x)
  ·obtain ⟨A, B, e, h1, h2⟩ := ih hp.2
   refine ⟨a :: A, B, by rw [e]; rfl, fun y hy => ?_, h2⟩
   rcases List.mem_cons.mp hy with rfl | hy
   ·exact h
   ·exact h1 y hy
  ·refine ⟨[], a :: r, rfl, nofun, fun y hy => ?_⟩
   rcases List.mem_cons.mp hy with rfl | hy
   ·exact h
   ·exact fun g => h (ge_trans (hp.1 y hy) g)
theorem insL_split (hn : NegC cols) {A B : List Str} (h1 : ∀ a ∈ A, geL cols (W a) (W x)) (h2 : ∀ b ∈ B, ¬ geL cols (W b) (W x)) : insL cols W (A ++ B) x = A ++ x :: B := by
 have hp : insP cols W (A ++ B) x = A.length := by
  unfold insP
  rw [List.filter_append, List.length_append]
  have e1 : A.filter (fun o => decide (cmpC cols (W o) (W x) <= 0)) = A := List.filter_eq_self.mpr fun a ha => decide_eq_true ((cmp_ge hn).mpr (h1 a ha))
  have e2 : B.filter (fun o => decide (cmpC cols (W o) (W x) <= 0)) = [] := List.filter_eq_nil_iff.mpr fun b hb => by
   rw [decide_eq_true_eq, cmp_ge hn]; exact h2 b hb
  rw [e1, e2]; rfl
 unfold insL
 rw [hp, List.take_left, List.drop_left]
theorem sort_ins (hs : SortD cols W (A ++ B)) (h1 : ∀ a ∈ A, geL cols (W a) (W x)) (h2 : ∀ b ∈ B, ¬ geL cols (W b) (W x)) : SortD cols W (A ++ x :: B) := by
 have hp := List.pairwise_append.mp hs
 refine List.pairwise_append.mpr ⟨hp.1, List.pairwise_cons.mpr ⟨fun b hb => ge_total (h2 b hb), hp.2.1⟩, fun a ha b hb => ?_⟩
 rcases List.mem_cons.mp hb with rfl | hb
 ·exact h1 a ha
 ·exact hp.2.2 a ha b hb
theorem ins_idx {b : Nat -> Nat -> Bool} {x : Nat} : ∀ {A B : List Nat}, (∀ a ∈ A, b x a = false) -> (∀ y ∈ B, b x y = true) -> insIdx b x (A ++ B) = A ++ x :: B
 | [], [], _, _ => rfl
 | [], y :: B, _, h2 => by
  show (if b x y then x :: y :: B else y :: insIdx b x B) = _
  rw [if_pos (h2 y (.head _))]; rfl
 | a :: A, B, h1, h2 => by
  show (if b x a then x :: a :: (A ++ B) else a :: insIdx b x (A ++ B)) = _
  rw [if_neg (by rw [h1 a (.head _)]; decide), ins_idx (fun y hy => h1 y (.tail _ hy)) h2]; rfl
theorem sort_two (hn : NegC cols) {wd : Nat -> Str} {b : Nat -> Nat -> Bool} (hb : ∀ i j, j < i -> i < 6 -> b i j = !decide (cmpC cols (W (wd j)) (W (wd i)) <= 0)) : ∀ (r n : Nat) (acc : List Nat), n + r = 6 -> SortD cols W (acc.map wd) -> (∀ a ∈ acc, a < n) ->
  ((List.range' n r).map wd).foldl (insL cols W) (acc.map wd) = (sortIdx b (List.range' n r) acc).map wd /\ SortD cols W ((sortIdx b (List.range' n r) acc).map wd)
 | 0, n, acc, _, hs, _ => ⟨rfl, hs⟩
 | r + 1, n, acc, h, hs, ha => by
  refine hd fun P0 q0 => ?_
  obtain ⟨A, B, e, h1, h2⟩ := split_at hs (wd n)
  obtain ⟨A', B', rfl, rfl, rfl⟩ : ∃ A' B', acc = A' ++ B' /\ A = A'.map wd /\ B = B'.map wd := by
   obtain ⟨A', B', q1, q2, q3⟩ := List.map_eq_append_iff.mp e
   exact ⟨A', B', q1, q2.symm, q3.symm⟩
  refine q0 ?_
  have g1 : ∀ a ∈ A', b n a = false := fun a hA => by
   rw [hb n a (ha a (List.mem_append_left _ hA)) (by lia), decide_eq_true ((cmp_ge hn).mpr (h1 _ (List.mem_map.mpr ⟨a, hA, rfl⟩)))]; rfl
  have g2 : ∀ y ∈ B', b n y = true := fun y hB => by
   rw [hb n y (ha y (List.mem_append_right _ hB)) (by lia), decide_eq_false (fun g => h2 _ (List.mem_map.mpr ⟨y, hB, rfl⟩) ((cmp_ge hn).mp g))]; rfl
  have hi := ins_idx g1 g2
  have hl : insL cols W ((A' ++ B').map wd) (wd n) = (A' ++ n :: B').map wd := by
   rw [List.map_append, insL_split hn h1 h2, List.map_append, List.map_cons]
  have hs' : SortD cols W ((A' ++ n :: B').map wd) := by
   rw [List.map_append, List.map_cons]
   rw [List.map_append] at hs
   exact sort_ins hs h1 h2
  rw [List.range'_succ, List.map_cons, List.foldl_cons, hl]
  show _ = (sortIdx b (List.range' (n + 1) r) (insIdx b n (A' ++ B'))).map wd /\ SortD cols W ((sortIdx b (List.range' (n + 1) r) (insIdx b n (A' ++ B'))).map wd)
  rw [hi]
  exact sort_two hn hb r (n + 1) (A' ++ n :: B') (by lia) hs' fun a hA => by
   rcases List.mem_append.mp hA with h | h
   ·have := ha a (List.mem_append_left _ h); lia
   ·rcases List.mem_cons.mp h with rfl | h
    ·lia
    ·have := ha a (List.mem_append_right _ h); lia
end
end Mine
end
section
open PySem PySem.W PyProof.Rows
set_option backward.match.sparseCases false
namespace Mine
noncomputable def isNegE (e : Expr) : Bool := e.ctorIdx == 3 && eKw e
theorem ev_neg {L : Lv} {e : Expr} {fr : Fr} {σ σ1 : List O} {i : Int} (h : isNegE e = true) (h1 : L.ev (eL e) fr σ = some (.int i, σ1)) : evStep L e fr σ = some (.int (-i), σ1) :=
 Expr.UnaryOp.elim (motive_1 := fun e => eKw e = true -> L.ev (eL e) fr σ = some (.int i, σ1) -> evStep L e fr σ = some (.int (-i), σ1)) e (ix_of (and_of h).1) (fun o _ _ h h1 => by
  have h : o = .USub := eq_of_beq h
  subst h
  exact bindR (guardE rfl) (bindR h1 rfl)) (and_of h).2 h1
theorem turn_go2 {α : Type} {L : Lv} {g : Comprehension} {fr fr1 : Fr} {inner : Fr -> M (List α)} {v : V} {σ σ1 : List O} {r : Option (List α × List O)} (ha : asgC g.target v fr σ = some (fr1, σ1)) (hi : g.ifs = []) (he : inner fr1 σ1 = r) : turn1 L g fr inner v σ = r := by
 refine bindR ha (bindR (a := true) (σ1 := σ1) ?_ he)
 rw [hi]; rfl
theorem flat_one {α β : Type} {g : α -> β} : ∀ l : List α, (l.flatMap fun x => [g x]) = l.map g
 | [] => rfl
 | x :: l => congrArg (g x :: ·) (flat_one l)
theorem tup_get {w : Nat -> Int} {d : List (Str × V)} {k : Nat} (hk : k < 4) {σ : List O} : getItem (ent w d) (iv k) σ = some (.int (w k), σ) := en (f := fun k => getItem (ent w d) (iv k) σ) (g := fun k => some (.int (w k), σ)) (n := 4) (by kernel_rfl) k hk
theorem sMp {α : Type} {f : α -> V} (h : ∀ a, (f a).simple = true) (l : List α) : V.simples (l.map f) = true := by
 rw [sIf]
 intro v hv
 obtain ⟨t, -, rfl⟩ := List.mem_map.mp hv
 exact h t
theorem deps_map {α : Type} {f : α -> V} {n : Nat} (h : ∀ a, (f a).dep n = true) : ∀ l : List α, V.deps (l.map f) n = true
 | [] => rfl
 | a :: l => by
  show ((f a).dep n && V.deps (l.map f) n) = true
  rw [h a, deps_map h l]; rfl
noncomputable def wordAt (c0 : Int) (i : Nat) : Str := nm (wd c0 i)
theorem words_six (c0 : Int) : wordsL c0 = (List.range' 0 6).map (wordAt c0) := by kernel_rfl
noncomputable def keyI (c : Nat -> Int) (i : Nat) : List Int := (colsOf (c 0)).map fun p => -(Wf c (wordAt (c 0) i) p.1)
noncomputable def rowV (c : Nat -> Int) (i : Nat) : V := .tup [.list ((keyI c i).map .int), iv i]
noncomputable def rowsI (c : Nat -> Int) : List (List Int × Int) := (List.range' 0 6).map fun i => (keyI c i, ((i : Nat) : Int))
noncomputable def sortX (c : Nat -> Int) : List Nat := sortIdx (rowLt (rowsI c)) [0, 1, 2, 3, 4, 5] []
noncomputable def keysV (c : Nat -> Int) : V := .list ((sortX c).map (rowV c))
theorem intsOf_map : ∀ l : List Int, intsOf (l.map .int) = some l
 | [] => rfl
 | i :: l => by
  show (intsOf (l.map .int)).map (i :: ·) = _
  rw [intsOf_map l]; rfl
theorem rowsOf_map (c : Nat -> Int) : ∀ l : List Nat, rowsOf (l.map (rowV c)) = some (l.map fun i => (keyI c i, ((i : Nat) : Int)))
 | [] => rfl
 | i :: l => by
  show ((intsOf ((keyI c i).map .int)).map fun ns => (ns, (i : Int))).bind (fun r => (rowsOf (l.map (rowV c))).map (r :: ·)) = _
  rw [intsOf_map, rowsOf_map c l]; rfl
theorem insIdx_perm {b : Nat -> Nat -> Bool} {x : Nat} : ∀ l : List Nat, (insIdx b x l).Perm (x :: l)
 | [] => .refl _
 | y :: l => by
  show (if b x y then x :: y :: l else y :: insIdx b x l).Perm (x :: y :: l)
  split
  ·exact .refl _
  ·exact ((insIdx_perm l).cons y).trans (.swap _ _ _)
theorem sortIdx_perm {b : Nat -> Nat -> Bool} : ∀ xs acc : List Nat, (sortIdx b xs acc).Perm (xs ++ acc)
 | [], acc => .refl _
 | x :: xs, acc => (sortIdx_perm xs (insIdx b x acc)).trans (((insIdx_perm acc).append_left xs).trans (List.perm_middle))
theorem sortX_perm (c : Nat -> Int) : (sortX c).Perm [0, 1, 2, 3, 4, 5] := sortIdx_perm _ _
theorem sortX_lt (c : Nat -> Int) : ∀ i ∈ sortX c, i < 6 := fun i hi => (by decide : ∀ x ∈ [0, 1, 2, 3, 4, 5], x < 6) _ ((sortX_perm c).mem_iff.mp hi)
theorem key_len (c : Nat -> Int) (i : Nat) : (keyI c i).length = 4 := by
 unfold keyI colsOf
 rw [List.length_map, List.length_map, (col_perm _).length_eq]; rfl
theorem sorted_call {m b : Nat} {σ : List O} {c : Nat -> Int} : (lv (m + 1)).call b (.con (.builtin "sorted")) [.list ((List.range' 0 6).map (rowV c))] σ = some (keysV c, σ) := by
 refine Eq.trans (b := (liftO (rowsOf ((List.range' 0 6).map (rowV c))) >>= fun rows => guardM (decide (rows.map (·.2) = [0, 1, 2, 3, 4, 5]) && rows.all fun r => r.1.length == (rows.headD ([], 0)).1.length) >>= fun _ => pure (V.list ((sortIdx (rowLt rows) [0, 1, 2, 3, 4, 5] []).map fun i => ((List.range' 0 6).map (rowV c)).getD i .none))) σ) (by kernel_rfl) ?_
 refine bindR (liftE (rowsOf_map c _)) (bindR (guardE ?_) ?_)
 ·rw [Bool.and_eq_true]
  refine ⟨rfl, List.all_eq_true.mpr fun r hr => ?_⟩
  obtain ⟨i, -, rfl⟩ := List.mem_map.mp hr
  show ((keyI c i).length == (keyI c 0).length) = true
  rw [key_len, key_len]; rfl
 ·show some (V.list _, σ) = some (V.list _, σ)
  congr 3
  apply List.map_congr_left
  intro i hi
  exact en (f := fun i => ((List.range' 0 6).map (rowV c)).getD i .none) (g := rowV c) (n := 6) rfl i (sortX_lt c i hi)
section
variable {c : Nat -> Int} {a : V}
noncomputable def c12 (a : V) (c : Nat -> Int) : List V := c11 a c ++ [lnV c]
noncomputable def t12 (a : V) (c : Nat -> Int) : List O := ST true (c12 a c) (os10 c)
noncomputable def l12 : Expr := eAt (eA (lcE 12)) 0
noncomputable def m12 : Expr := eAt (eA (eL l12)) 0
noncomputable def f12 (a : V) (c : Nat -> Int) : Fr := cfr l12 (fr213 (l8 (c 0))) (t12 a c)
noncomputable def u12 (a : V) (c : Nat -> Int) (k : Nat) : List O := t12 a c ++ [.cell (some (iv k))]
noncomputable def S12 (a : V) (c : Nat -> Int) (k : Nat) : List O := if k = 0 then t12 a c ++ [.cell none] else u12 a c (k - 1)
theorem m12_ev {k : Nat} (hk : k < 6) : (lv 115).ev m12 (f12 a c) (u12 a c k) = some (.list ((keyI c k).map .int), u12 a c k) := by
 have ht := tPu (chk := noChk) (σ := u12 a c k) (f := turn1 (lv 114) (eG1 m12 0) (cfr m12 (f12 a c) (u12 a c k)) (emitL (lv 114) m12)) (t := colV) (w := fun p => [V.int (-(Wf c (wordAt (c 0) k) p.1))]) rfl (vs := colsOf (c 0)) fun p hp => by
  obtain ⟨i, hi, rfl⟩ := List.mem_map.mp hp
  refine tGo (fr1 := cf1 m12 (f12 a c) (u12 a c k) [iv i, .int (-1 - i)]) (by kernel_rfl) rfl (mOf (ev_neg (L := lv 113) (e := eL m12) rfl ?_))
  have h1 : (lv 112).ev (eL (eL (eL m12))) (cf1 m12 (f12 a c) (u12 a c k) [iv i, .int (-1 - i)]) (u12 a c k) = some (thE (Wf c (wordAt (c 0) k)) (wordAt (c 0) k) (Sf c (wordAt (c 0) k)), u12 a c k) :=
   ev_sub (L := lv 111) (e := eL (eL (eL m12))) (a := .dict (wtab c 6)) (σ1 := u12 a c k) rfl (by kernel_rfl) (b := .str (wordAt (c 0) k)) (σ2 := u12 a c k) (en (f := fun k => (lv 111).ev (eR (eL (eL (eL m12)))) (cf1 m12 (f12 a c) (u12 a c k) [iv i, .int (-1 - i)]) (u12 a c k)) (g := fun k => some (.str (wordAt (c 0) k), u12 a c k)) (n := 6) (by kernel_rfl) k hk) (dict_get (tab_ok c _ (nm_mem (wd_lt _ hk))))
  exact ev_sub (L := lv 112) (e := eL (eL m12)) rfl h1 (b := iv i) (σ2 := u12 a c k) (by kernel_rfl) (tup_get (col_lt _ i hi))
 have e : ((colsOf (c 0)).flatMap fun p => [V.int (-(Wf c (wordAt (c 0) k) p.1))]) = (keyI c k).map .int := by
  unfold keyI
  rw [List.map_map]
  exact flat_one _
 rw [e] at ht
 exact ev_lc (L := lv 114) (e := m12) rfl (by kernel_rfl) (chk := noChk) (items := (colsOf (c 0)).map colV) (by kernel_rfl) (by kernel_rfl) ht (decide_eq_true (by rw [List.length_map, key_len]; decide)) (sMp (fun _ => rfl) _)
theorem x12 : Step 12 (l8 (c 0)) (c12 a c) true (os10 c) (l8 (c 0) ++ [keysV c]) (c12 a c) true (os10 c) := by
 have ht : turns noChk (turn1 (lv 116) (eG1 l12 0) (f12 a c) (emitL (lv 116) l12)) (it 6) (S12 a c 0) = some ((List.range' 0 6).flatMap fun k => [rowV c k], S12 a c 6) := by
  refine turns_n (S := S12 a c) (w := fun k => [rowV c k]) fun k hk => ?_
  have h1 := en (f := fun k => asgC (eG1 l12 0).target (iv k) (f12 a c) (S12 a c k)) (g := fun k => some (f12 a c, u12 a c k)) (n := 6) (by kernel_rfl) k hk
  refine turn_go2 h1 rfl (mOf ?_)
  refine ev_tup (L := lv 115) (e := eL l12) (vs := [.list ((keyI c k).map .int), iv k]) rfl ?_ rfl
  have h2 : (lv 115).ev (eAt (eA (eL l12)) 1) (f12 a c) (u12 a c k) = some (iv k, S12 a c (k + 1)) := by kernel_rfl
  exact Eq.trans (b := evs (lv 115) [m12, eAt (eA (eL l12)) 1] (f12 a c) (u12 a c k)) (by kernel_rfl) (eVc rfl (m12_ev hk) (eVc rfl h2 evs_nil))
 rw [flat_one] at ht
 have h2 : (lv 117).ev l12 (fr213 (l8 (c 0))) (t12 a c) = some (.list ((List.range' 0 6).map (rowV c)), t12 a c) :=
  ev_lc (L := lv 116) (e := l12) rfl (by kernel_rfl) (items := it 6) (by kernel_rfl) (by kernel_rfl) ht (by kernel_rfl) (sMp (fun i => by
   show (V.simples ((keyI c i).map .int) && true) = true
   rw [sMp fun _ => rfl]; rfl) _)
 have h : evA (lv 118) (lcE 12) (fr213 (l8 (c 0))) (t12 a c) = some (keysV c, t12 a c) :=
  ev_call (L := lv 117) (e := lcE 12) (a := .con (.builtin "sorted")) (σ1 := t12 a c) rfl (by kernel_rfl) rfl (eVc rfl h2 evs_nil) sorted_call
 exact st_as rfl h (by kernel_rfl)
end
theorem ltInts_self : ∀ l : List Int, ltInts l l = false
 | [] => rfl
 | a :: l => (if_pos rfl).trans (ltInts_self l)
theorem lt_cmp {w u : Nat -> Int} : ∀ {cols : List (Nat × Int)}, NegC cols -> ltInts (cols.map fun p => -(w p.1)) (cols.map fun p => -(u p.1)) = !decide (cmpC cols u w <= 0)
 | [], _ => rfl
 | (c, d) :: r, h => by
  have hd : d < 0 := h (c, d) (.head _)
  have ih := lt_cmp (w := w) (u := u) (cols := r) fun p hp => h p (.tail _ hp)
  show (if -(w c) = -(u c) then ltInts (r.map fun p => -(w p.1)) (r.map fun p => -(u p.1)) else decide (-(w c) < -(u c))) = !decide ((if u c < w c then -d else if w c < u c then d else cmpC r u w) <= 0)
  by_cases h1 : u c < w c
  ·rw [if_neg (by lia), if_pos h1, decide_eq_true (by lia), decide_eq_false (by lia)]; rfl
  ·rw [if_neg h1]
   by_cases h2 : w c < u c
   ·rw [if_neg (by lia), if_pos h2, decide_eq_false (by lia), decide_eq_true (by lia)]; rfl
   ·rw [if_pos (by lia), if_neg h2, ih]
theorem cols_neg (c0 : Int) : NegC (colsOf c0) := fun p hp => by
 obtain ⟨i, _, rfl⟩ := List.mem_map.mp hp
 show -1 - (i : Int) < 0
 lia
theorem rows_get (c : Nat -> Int) {i : Nat} (hi : i < 6) : (rowsI c).getD i ([], 0) = (keyI c i, (i : Int)) := en (f := fun i => (rowsI c).getD i ([], 0)) (g := fun i => (keyI c i, (i : Int))) (n := 6) rfl i hi
theorem line_sort (c : Nat -> Int) : lineL c = (sortX c).map (wordAt (c 0)) /\ SortD (colsOf (c 0)) (Wf c) (lineL c) := by
 have h := sort_two (W := Wf c) (cols_neg (c 0)) (wd := wordAt (c 0)) (b := rowLt (rowsI c)) (fun i j hj hi => by
  show ltRow ((rowsI c).getD i ([], 0)) ((rowsI c).getD j ([], 0)) = _
  rw [rows_get c hi, rows_get c (Nat.lt_trans hj hi), <- lt_cmp (cols_neg _)]
  show (if keyI c i = keyI c j then decide ((i : Int) < (j : Int)) else ltInts (keyI c i) (keyI c j)) = ltInts (keyI c i) (keyI c j)
  by_cases e : keyI c i = keyI c j
  ·rw [if_pos e, e, ltInts_self, decide_eq_false (by lia)]
  ·rw [if_neg e]) 6 0 [] rfl .nil (fun _ h => (nomatch h))
 rw [<- words_six] at h
 have e : lineL c = (sortX c).map (wordAt (c 0)) := h.1
 exact ⟨e, by rw [e]; exact h.2⟩
theorem line_perm (c : Nat -> Int) : (lineL c).Perm (wordsL (c 0)) := by
 rw [(line_sort c).1, words_six]
 exact (sortX_perm c).map _
theorem line_len (c : Nat -> Int) : (lineL c).length = 6 := by rw [(line_perm c).length_eq, words_len]
theorem line_nodup (c : Nat -> Int) : (lineL c).Nodup := (line_perm c).nodup_iff.mpr (words_nodup _)
theorem line_mem (c : Nat -> Int) : ∀ t ∈ lineL c, t ∈ nameL := fun t ht => words_mem _ t ((line_perm c).mem_iff.mp ht)
theorem deps_strL (l : List Str) (n : Nat) : V.deps (strL l) n = true := deps_map (fun _ => rfl) l
theorem cg2 {α : Type} {L : Lv} {emit : Fr -> M (List α)} {g g2 : Comprehension} {q : List V × Chk} {fr : Fr} {σ : List O} {r : Option (List α × List O)} (h : notSet g2.iter = true) (ht : turns q.2 (turn1 L g fr fun fr' => do let it' <- iterSrcC L g2.target g2.iter fr'; turns it'.2 (turn1 L g2 fr' emit) it'.1) q.1 σ = r) : compG L emit g [g2] q fr σ = r := bindR (guardE h) ht
section
variable {c : Nat -> Int} {a : V}
noncomputable def l13 (c : Nat -> Int) : List V := l8 (c 0) ++ [keysV c]
noncomputable def r13 : Expr := eR (sT (s213 13))
theorem x13 : Step 13 (l13 c) (c12 a c) true (os10 c) (l13 c) (c12 a c) true (os10 c) := by
 have ht := tPu (chk := noChk) (σ := t12 a c) (f := turn1 (lv 116) (eG1 r13 0) (cfr r13 (fr213 (l13 c)) (t12 a c)) (emitL (lv 116) r13)) (t := rowV c) (w := fun i => [V.str (wordAt (c 0) i)]) rfl (vs := sortX c) fun i hi =>
  tGo (fr1 := cf1 r13 (fr213 (l13 c)) (t12 a c) [.list ((keyI c i).map .int), iv i]) (by kernel_rfl) rfl (mOf (en (f := fun i => (lv 116).ev (eL r13) (cf1 r13 (fr213 (l13 c)) (t12 a c) [.list ((keyI c i).map .int), iv i]) (t12 a c)) (g := fun i => some (.str (wordAt (c 0) i), t12 a c)) (n := 6) (by kernel_rfl) i (sortX_lt c i hi)))
 have e : ((sortX c).flatMap fun i => [V.str (wordAt (c 0) i)]) = strL (lineL c) := by
  rw [flat_one, (line_sort c).1]
  unfold strL
  rw [List.map_map]; rfl
 rw [e] at ht
 have hr : (lv 117).ev r13 (fr213 (l13 c)) (t12 a c) = some (lnV c, t12 a c) :=
  ev_lc (L := lv 116) (e := r13) rfl (by kernel_rfl) (chk := noChk) (items := (sortX c).map (rowV c)) (by kernel_rfl) (by kernel_rfl) ht (decide_eq_true (by unfold strL; rw [List.length_map, line_len]; decide)) (sSL _)
 exact st_no (n := 117) rfl rfl (tr_cmp (L := lv 117) (e := sT (s213 13)) (a := lnV c) (σ1 := t12 a c) rfl (by kernel_rfl) hr (ne_self (sSL _) (deps_strL _ _)))
noncomputable def turnsI (c : Nat -> Int) : List Int := (wordsL (c 0)).flatMap fun one => (wordsL (c 0)).map fun two => cmpC (colsOf (c 0)) (Wf c one) (Wf c two)
noncomputable def turnsV (c : Nat -> Int) : V := .list ((turnsI c).map .int)
noncomputable def cg : Nat -> Nat -> Comprehension := fun k i => eG1 (lcE k) i
theorem flat_map {α β γ : Type} {g : β -> γ} {f : α -> List β} : ∀ l : List α, (l.flatMap fun x => (f x).map g) = (l.flatMap f).map g
 | [] => rfl
 | x :: l => by rw [List.flatMap_cons, List.flatMap_cons, List.map_append, flat_map l]
theorem x14 : Step 14 (l13 c) (c12 a c) true (os10 c) (l13 c ++ [turnsV c]) (c12 a c) true (os10 c) := by
 have h1 : ∀ one ∈ wordsL (c 0), ∀ two ∈ wordsL (c 0), turn1 (lv 118) (cg 14 1) (cf1 (lcE 14) (fr213 (l13 c)) (t12 a c) [.str one]) (emitL (lv 118) (lcE 14)) (.str two) (t12 a c) = some ([.int (cmpC (colsOf (c 0)) (Wf c one) (Wf c two))], t12 a c) := fun one h1 two h2 => by
  refine tGo (fr1 := cf1 (lcE 14) (fr213 (l13 c)) (t12 a c) [.str one, .str two]) (by kernel_rfl) rfl (mOf ?_)
  have g1 : (lv 117).ev (eAt (eA (eL (lcE 14))) 0) (cf1 (lcE 14) (fr213 (l13 c)) (t12 a c) [.str one, .str two]) (t12 a c) = some (thE (Wf c one) one (Sf c one), t12 a c) :=
   ev_sub (L := lv 116) (e := eAt (eA (eL (lcE 14))) 0) (a := .dict (wtab c 6)) (σ1 := t12 a c) rfl (by kernel_rfl) (b := .str one) (σ2 := t12 a c) (by kernel_rfl) (dict_get (tab_ok c _ (words_mem _ _ h1)))
  have g2 : (lv 117).ev (eAt (eA (eL (lcE 14))) 1) (cf1 (lcE 14) (fr213 (l13 c)) (t12 a c) [.str one, .str two]) (t12 a c) = some (thE (Wf c two) two (Sf c two), t12 a c) :=
   ev_sub (L := lv 116) (e := eAt (eA (eL (lcE 14))) 1) (a := .dict (wtab c 6)) (σ1 := t12 a c) rfl (by kernel_rfl) (b := .str two) (σ2 := t12 a c) (by kernel_rfl) (dict_get (tab_ok c _ (words_mem _ _ h2)))
  exact ev_meth (L := lv 117) (e := eL (lcE 14)) (a := .inst 38 24) (σ1 := t12 a c) (t := .fn 35) rfl (by kernel_rfl) (by kernel_rfl) (eVc rfl g1 (eVc rfl g2 evs_nil)) (call_cmp (m := 110) (k := 24) rfl (cols_lt _))
 have h2 : ∀ one ∈ wordsL (c 0), turn1 (lv 118) (cg 14 0) (cfr (lcE 14) (fr213 (l13 c)) (t12 a c)) (fun fr' => do let it' <- iterSrcC (lv 118) (cg 14 1).target (cg 14 1).iter fr'; turns it'.2 (turn1 (lv 118) (cg 14 1) fr' (emitL (lv 118) (lcE 14))) it'.1) (.str one) (t12 a c) = some (((wordsL (c 0)).map fun two => cmpC (colsOf (c 0)) (Wf c one) (Wf c two)).map .int, t12 a c) := fun one ho => by
  refine tGo (fr1 := cf1 (lcE 14) (fr213 (l13 c)) (t12 a c) [.str one]) (by kernel_rfl) rfl (bindR (a := (strL (wordsL (c 0)), noChk)) (σ1 := t12 a c) (by kernel_rfl) ?_)
  have ht := tPu (chk := noChk) (σ := t12 a c) (f := turn1 (lv 118) (cg 14 1) (cf1 (lcE 14) (fr213 (l13 c)) (t12 a c) [.str one]) (emitL (lv 118) (lcE 14))) (t := V.str) rfl (h1 one ho)
  rw [flat_one] at ht
  rw [List.map_map]; exact ht
 have ht := tPu (chk := noChk) (σ := t12 a c) (t := V.str) rfl h2
 rw [flat_map] at ht
 refine st_as rfl (v := turnsV c) (σ1 := t12 a c) ?_ (by kernel_rfl)
 exact ev_lcG (L := lv 118) (e := lcE 14) rfl (by kernel_rfl) (chk := noChk) (items := strL (wordsL (c 0))) (by kernel_rfl) (by kernel_rfl) (cg2 rfl ht) (by kernel_rfl) (sMp (fun _ => rfl) _)
end
noncomputable def NT : Nat -> Nat
 | 0 => 25
 | _ => 34
noncomputable def r188 : Expr := sE (stL (fiOf 188).body 0)
noncomputable def l188 : Expr := eL (eL r188)
noncomputable def b2i (b : Bool) : Int := if b then 1 else 0
noncomputable def sgnI (w u : Nat -> Int) (k : Nat) : Int := b2i (decide (u k < w k)) - b2i (decide (w k < u k))
theorem lt_big {n : Nat} (h : n < 1000000) : n < big := Nat.lt_trans h (Nat.lt_of_lt_of_le (by decide : 1000000 < 2 ^ 20) (Nat.pow_le_pow_right (by decide) (by decide)))
theorem sgn_abs (w u : Nat -> Int) (k : Nat) : (sgnI w u k).natAbs < big :=
 have h : ∀ a b : Bool, (b2i a - b2i b).natAbs < 1000000 := by decide
 lt_big (h _ _)
theorem get_head {v : V} {l : List V} {σ : List O} : getItem (.list (v :: l)) (.int 0) σ = some (v, σ) := rfl
section
variable {m z b : Nat} {o : Nat -> O} {w u : Nat -> Int} {x y : List (Str × V)} {cols : List (Nat × Int)}
noncomputable def F188 (z : Nat) (cols : List (Nat × Int)) : Fr := frA 188 [some (.list (cols.map colV))] [("two", NT z + 1), ("one", NT z)] (NT z)
noncomputable def S188 (z : Nat) (o : Nat -> O) (w u : Nat -> Int) (x y : List (Str × V)) : List O := SO (NT z) o ++ [.cell (some (ent w x)), .cell (some (ent u y))]
theorem tu_turn (hz : z < 2) {p : Nat × Int} (hp : p.1 < 4) (hd : p.2.natAbs < 1000000) : turn1 (lv (m + 9)) (eG1 l188 0) (cfr l188 (F188 z cols) (S188 z o w u x y)) (emitL (lv (m + 9)) l188) (colV p) (S188 z o w u x y) = some (if !decide (w p.1 = u p.1) then [V.int (p.2 * sgnI w u p.1)] else [], S188 z o w u x y) := by
 obtain ⟨k, d⟩ := p
 have h0 := en (f := fun z => asgC (eG1 l188 0).target (colV (k, d)) (cfr l188 (F188 z cols) (S188 z o w u x y)) (S188 z o w u x y)) (g := fun z => some (cf1 l188 (F188 z cols) (S188 z o w u x y) [iv k, .int d], S188 z o w u x y)) (n := 2) (by kernel_rfl) z hz
 have h1 := en2 (f := fun z k => (lv (m + 9)).tr (eAt (eG1 l188 0).ifs 0) (cf1 l188 (F188 z cols) (S188 z o w u x y) [iv k, .int d]) (S188 z o w u x y)) (g := fun z k => some (!decide (w k = u k), S188 z o w u x y)) (a := 2) (b := 4) (by kernel_rfl) z hz k hp
 have h2 := en (f := fun z => (lv (m + 8)).ev (eL (eL l188)) (cf1 l188 (F188 z cols) (S188 z o w u x y) [iv k, .int d]) (S188 z o w u x y)) (g := fun z => some (.int d, S188 z o w u x y)) (n := 2) (by kernel_rfl) z hz
 have h3 := en2 (f := fun z k => (lv (m + 8)).ev (eR (eL l188)) (cf1 l188 (F188 z cols) (S188 z o w u x y) [iv k, .int d]) (S188 z o w u x y)) (g := fun z k => some (.int (sgnI w u k), S188 z o w u x y)) (a := 2) (b := 4) (by kernel_rfl) z hz k hp
 refine turn_if h0 (Eq.trans (b := tests (lv (m + 9)) [eAt (eG1 l188 0).ifs 0] (cf1 l188 (F188 z cols) (S188 z o w u x y) [iv k, .int d]) (S188 z o w u x y)) (by kernel_rfl) (tests_one h1)) (mOf (ev_bin (L := lv (m + 8)) (e := eL l188) rfl h2 h3 ?_))
 exact bindR (a := sgnI w u k) (σ1 := S188 z o w u x y) rfl (bindR (guardE (decide_eq_true ⟨lt_big hd, sgn_abs _ _ _⟩)) rfl)
noncomputable def turnL (w u : Nat -> Int) (cols : List (Nat × Int)) : List V := cols.flatMap fun p => if !decide (w p.1 = u p.1) then [V.int (p.2 * sgnI w u p.1)] else []
theorem turnL_head (w u : Nat -> Int) : ∀ cols : List (Nat × Int), ∃ r, turnL w u cols ++ [V.int 0] = V.int (cmpC cols w u) :: r
 | [] => ⟨[], rfl⟩
 | (c, d) :: r => by
  obtain ⟨r', e⟩ := turnL_head w u r
  have h0 : turnL w u ((c, d) :: r) = (if !decide (w c = u c) then [V.int (d * sgnI w u c)] else []) ++ turnL w u r := rfl
  rw [h0, cmpC_c]
  unfold sgnI
  by_cases h1 : w c < u c
  ·rw [decide_eq_false (by lia : ¬ w c = u c), if_pos h1, decide_eq_true h1, decide_eq_false (by lia : ¬ u c < w c)]
   refine ⟨turnL w u r ++ [.int 0], ?_⟩
   show V.int (d * (0 - 1)) :: _ = _
   rw [show d * (0 - 1) = -d by lia]; rfl
  ·rw [if_neg h1]
   by_cases h2 : u c < w c
   ·rw [decide_eq_false (by lia : ¬ w c = u c), if_pos h2, decide_eq_true h2, decide_eq_false h1]
    refine ⟨turnL w u r ++ [.int 0], ?_⟩
    show V.int (d * (1 - 0)) :: _ = _
    rw [show d * (1 - 0) = d by lia]; rfl
   ·rw [decide_eq_true (by lia : w c = u c), if_neg h2]
    exact ⟨r', e⟩
theorem turnL_len (w u : Nat -> Int) : ∀ cols : List (Nat × Int), (turnL w u cols).length <= cols.length
 | [] => Nat.le_refl _
 | (c, d) :: r => by
  have ih := turnL_len w u r
  show ((if !decide (w c = u c) then [V.int (d * sgnI w u c)] else []) ++ turnL w u r).length <= r.length + 1
  rw [List.length_append]
  split
  ·show 1 + _ <= _; lia
  ·show 0 + _ <= _; lia
theorem turnL_simple (w u : Nat -> Int) (cols : List (Nat × Int)) : V.simples (turnL w u cols) = true := by
 rw [sIf]
 intro v hv
 obtain ⟨p, -, hv⟩ := List.mem_flatMap.mp hv
 split at hv
 ·rw [List.mem_singleton.mp hv]; rfl
 ·cases hv
theorem call_turn (hz : z < 2) (hc : ∀ p ∈ cols, p.1 < 4 /\ p.2.natAbs < 1000000) (hl : cols.length <= 4) : (lv (m + 14)).call b (.con (.ref 188)) [ent w x, ent u y, .list (cols.map colV)] (SO (NT z) o) = some (.int (cmpC cols w u), SO (NT z) o) := by
 rw [call_fn (m := m + 13) rfl rfl rfl]
 refine (en (f := fun z => callFn (lv (m + 13)) b (fiOf 188) [] [ent w x, ent u y, .list (cols.map colV)] (SO (NT z) o)) (g := fun z => ((exL (lv (m + 12)) [stL (fiOf 188).body 0] (F188 z cols)) >>= fun r => endFn false (SO (NT z) o) (flV r.1)) (S188 z o w u x y)) (n := 2) (by kernel_rfl) z hz).trans ?_
 have ht := tPu (chk := noChk) (σ := S188 z o w u x y) (f := turn1 (lv (m + 9)) (eG1 l188 0) (cfr l188 (F188 z cols) (S188 z o w u x y)) (emitL (lv (m + 9)) l188)) (t := colV) rfl fun p hp => tu_turn (m := m) (cols := cols) hz (hc p hp).1 (hc p hp).2
 have hll := turnL_len w u cols
 have h1 : (lv (m + 10)).ev l188 (F188 z cols) (S188 z o w u x y) = some (.list (turnL w u cols), (S188 z o w u x y).take (S188 z o w u x y).length) :=
  ev_lc (L := lv (m + 9)) (e := l188) rfl (by kernel_rfl) (chk := noChk) (items := cols.map colV) (en (f := fun z => iterSrcC (lv (m + 9)) (eG1 l188 0).target (eG1 l188 0).iter (F188 z cols) (S188 z o w u x y)) (g := fun z => some ((cols.map colV, noChk), S188 z o w u x y)) (n := 2) (by kernel_rfl) z hz)
   (en (f := fun z => (takenC (F188 z cols) (eS l188).names []).bind (fun cl => (mkCells (eS l188).names cl (S188 z o w u x y)).map (·.2))) (g := fun z => some (S188 z o w u x y)) (n := 2) (by kernel_rfl) z hz) ht (decide_eq_true (by show (turnL w u cols).length <= 100000; lia)) (turnL_simple _ _ _)
 rw [List.take_length] at h1
 obtain ⟨r, er⟩ := turnL_head w u cols
 have h2 : (lv (m + 11)).ev (eL r188) (F188 z cols) (S188 z o w u x y) = some (.list (turnL w u cols ++ [.int 0]), S188 z o w u x y) := by
  refine ev_bin (L := lv (m + 10)) (e := eL r188) rfl h1 (b := .list [.int 0]) (σ2 := S188 z o w u x y) (en (f := fun z => (lv (m + 10)).ev (eR (eL r188)) (F188 z cols) (S188 z o w u x y)) (g := fun z => some (.list [.int 0], S188 z o w u x y)) (n := 2) (by kernel_rfl) z hz) ?_
  exact bindR (a := turnL w u cols) (σ1 := S188 z o w u x y) rfl (bindR (a := [V.int 0]) (σ1 := S188 z o w u x y) rfl (bindR (guardE (decide_eq_true (by show _ + 1 <= 100000; lia))) rfl))
 rw [er] at h2
 have h3 : (lv (m + 12)).ev r188 (F188 z cols) (S188 z o w u x y) = some (.int (cmpC cols w u), S188 z o w u x y) :=
  ev_sub (L := lv (m + 11)) (e := r188) rfl h2 (b := .int 0) (σ2 := S188 z o w u x y) (en (f := fun z => (lv (m + 11)).ev (eR r188) (F188 z cols) (S188 z o w u x y)) (g := fun z => some (.int 0, S188 z o w u x y)) (n := 2) (by kernel_rfl) z hz) get_head
 have h4 : exL (lv (m + 12)) [stL (fiOf 188).body 0] (F188 z cols) (S188 z o w u x y) = some ((.ret (.int (cmpC cols w u)), F188 z cols), S188 z o w u x y) := exL_ret (bindR (liftE rfl) (bindR h3 rfl))
 exact bindR h4 (en (f := fun z => endFn false (SO (NT z) o) (.int (cmpC cols w u)) (S188 z o w u x y)) (g := fun z => some (.int (cmpC cols w u), SO (NT z) o)) (n := 2) (by kernel_rfl) z hz)
end
noncomputable def isOr2 (e : Expr) : Bool := e.ctorIdx == 0 && (!eKw e && ((two (eA e)).isSome && (sameE (eA e)).isNone))
theorem two_ex {α : Type} {l : List α} (h : (two l).isSome = true) : ∃ a b, l = [a, b] := by
 match l, h with
 | [a, b], _ => exact ⟨a, b, rfl⟩
theorem bool_of {e : Expr} (h : (e.ctorIdx == 0) = true) : ∃ o a p, e = .BoolOp o a p := Expr.BoolOp.elim (motive_1 := fun e => ∃ o a p, e = .BoolOp o a p) e (ix_of h) fun _ _ _ => ⟨_, _, _, rfl⟩
theorem tr_or {L : Lv} {e : Expr} {fr : Fr} {σ : List O} (h : isOr2 e = true) (h1 : L.tr (eAt (eA e) 0) fr σ = some (false, σ)) (h2 : L.tr (eAt (eA e) 1) fr σ = some (false, σ)) : trStep L e fr σ = some (false, σ) := by
 obtain ⟨g, h⟩ := and_of h
 obtain ⟨o, es, p, rfl⟩ := bool_of g
 obtain ⟨g1, h⟩ := and_of h
 obtain ⟨g2, g3⟩ := and_of h
 obtain ⟨a, b, e⟩ := two_ex g2
 have e : es = [a, b] := e
 subst e
 cases o with
 | And => cases g1
 | Or =>
  show trBool L .Or [a, b] fr σ = _
  unfold trBool
  have g3 : sameE [a, b] = none := Option.isNone_iff_eq_none.mp g3
  rw [if_pos rfl, g3]
  exact bindR h1 (bindR h2 rfl)
section
variable {c : Nat -> Int} {a : V}
theorem cols_ok (c0 : Int) : ∀ p ∈ colsOf c0, p.1 < 4 /\ p.2.natAbs < 1000000 := fun p hp => by
 obtain ⟨i, hi, rfl⟩ := List.mem_map.mp hp
 have := col_lt c0 i hi
 exact ⟨this, by show (-1 - (i : Int)).natAbs < 1000000; lia⟩
theorem cols_len (c0 : Int) : (colsOf c0).length <= 4 := by
 unfold colsOf
 rw [List.length_map, (col_perm c0).length_eq]; exact Nat.le_refl _
noncomputable def l15 (c : Nat -> Int) : List V := l13 c ++ [turnsV c]
noncomputable def r15 : Expr := eR (eAt (eA (sT (s213 15))) 0)
theorem x15 : Step 15 (l15 c) (c12 a c) true (os10 c) (l15 c) (c12 a c) true (os10 c) := by
 have h1 : ∀ one ∈ wordsL (c 0), ∀ two ∈ wordsL (c 0), turn1 (lv 115) (eG1 r15 1) (cf1 r15 (fr213 (l15 c)) (t12 a c) [.str one]) (emitL (lv 115) r15) (.str two) (t12 a c) = some ([.int (cmpC (colsOf (c 0)) (Wf c one) (Wf c two))], t12 a c) := fun one h1 two h2 => by
  refine tGo (fr1 := cf1 r15 (fr213 (l15 c)) (t12 a c) [.str one, .str two]) (by kernel_rfl) rfl (mOf ?_)
  have g1 : (lv 114).ev (eAt (eA (eL r15)) 0) (cf1 r15 (fr213 (l15 c)) (t12 a c) [.str one, .str two]) (t12 a c) = some (thE (Wf c one) one (Sf c one), t12 a c) :=
   ev_sub (L := lv 113) (e := eAt (eA (eL r15)) 0) (a := .dict (wtab c 6)) (σ1 := t12 a c) rfl (by kernel_rfl) (b := .str one) (σ2 := t12 a c) (by kernel_rfl) (dict_get (tab_ok c _ (words_mem _ _ h1)))
  have g2 : (lv 114).ev (eAt (eA (eL r15)) 1) (cf1 r15 (fr213 (l15 c)) (t12 a c) [.str one, .str two]) (t12 a c) = some (thE (Wf c two) two (Sf c two), t12 a c) :=
   ev_sub (L := lv 113) (e := eAt (eA (eL r15)) 1) (a := .dict (wtab c 6)) (σ1 := t12 a c) rfl (by kernel_rfl) (b := .str two) (σ2 := t12 a c) (by kernel_rfl) (dict_get (tab_ok c _ (words_mem _ _ h2)))
  have g3 : (lv 114).ev (eAt (eA (eL r15)) 2) (cf1 r15 (fr213 (l15 c)) (t12 a c) [.str one, .str two]) (t12 a c) = some (colsV (c 0), t12 a c) := by kernel_rfl
  exact ev_call (L := lv 114) (e := eL r15) (a := .con (.ref 188)) (σ1 := t12 a c) rfl (by kernel_rfl) rfl (eVc rfl g1 (eVc rfl g2 (eVc rfl g3 evs_nil))) (call_turn (m := 100) (z := 0) (o := oOf (t12 a c)) (by decide) (cols_ok _) (cols_len _))
 have h2 : ∀ one ∈ wordsL (c 0), turn1 (lv 115) (eG1 r15 0) (cfr r15 (fr213 (l15 c)) (t12 a c)) (fun fr' => do let it' <- iterSrcC (lv 115) (eG1 r15 1).target (eG1 r15 1).iter fr'; turns it'.2 (turn1 (lv 115) (eG1 r15 1) fr' (emitL (lv 115) r15)) it'.1) (.str one) (t12 a c) = some (((wordsL (c 0)).map fun two => cmpC (colsOf (c 0)) (Wf c one) (Wf c two)).map .int, t12 a c) := fun one ho => by
  refine tGo (fr1 := cf1 r15 (fr213 (l15 c)) (t12 a c) [.str one]) (by kernel_rfl) rfl (bindR (a := (strL (wordsL (c 0)), noChk)) (σ1 := t12 a c) (by kernel_rfl) ?_)
  have ht := tPu (chk := noChk) (σ := t12 a c) (f := turn1 (lv 115) (eG1 r15 1) (cf1 r15 (fr213 (l15 c)) (t12 a c) [.str one]) (emitL (lv 115) r15)) (t := V.str) rfl (h1 one ho)
  rw [flat_one] at ht
  rw [List.map_map]; exact ht
 have ht := tPu (chk := noChk) (σ := t12 a c) (t := V.str) rfl h2
 rw [flat_map] at ht
 have hr : (lv 116).ev r15 (fr213 (l15 c)) (t12 a c) = some (turnsV c, t12 a c) :=
  ev_lcG (L := lv 115) (e := r15) rfl (by kernel_rfl) (chk := noChk) (items := strL (wordsL (c 0))) (by kernel_rfl) (by kernel_rfl) (cg2 rfl ht) (by kernel_rfl) (sMp (fun _ => rfl) _)
 have e1 : (lv 117).tr (eAt (eA (sT (s213 15))) 0) (fr213 (l15 c)) (t12 a c) = some (false, t12 a c) :=
  tr_cmp (L := lv 116) (e := eAt (eA (sT (s213 15))) 0) (a := turnsV c) (σ1 := t12 a c) rfl (by kernel_rfl) hr (ne_self (sMp (fun _ => rfl) _) (deps_map (fun _ => rfl) _))
 have e2 : (lv 117).tr (eAt (eA (sT (s213 15))) 1) (fr213 (l15 c)) (t12 a c) = some (false, t12 a c) := by kernel_rfl
 exact st_no (n := 117) rfl rfl (tr_or (L := lv 117) (e := sT (s213 15)) rfl e1 e2)
theorem six_of {l : List Str} (h : l.length = 6) : ∃ x : Nat -> Str, l = six x := ⟨fun k => l.getD k Str.empty, by
 match l, h with
 | [_, _, _, _, _, _], _ => rfl⟩
noncomputable def nones (k : Nat) : List V := List.replicate k .none
noncomputable def os16 (c : Nat -> Int) : List O := lexA (lnS (c 0) 6) [.str "z"] (strL (lineL c)) ++ [compO ((colsOf (c 0)).map colV)]
theorem x16 : Step 16 (l15 c) (c12 a c) true (os10 c) (l15 c ++ [.list (nones 6)]) (c12 a c) true (os16 c) := by
 obtain ⟨x, e⟩ := six_of (line_len c)
 unfold Step c12 os16 lnV
 rw [e]
 kernel_rfl
noncomputable def l16 (c : Nat -> Int) : List V := l15 c ++ [.list (nones 6)]
noncomputable def lexB (sg pb : List V) : List O := [.cell (some (.ref 26)), .list sg, lexO 1 25 28, .list pb]
noncomputable def os17 (c : Nat -> Int) : List O := os16 c ++ lexB [.str "y"] []
noncomputable def c17 (a : V) (c : Nat -> Int) : List V := c12 a c ++ [.inst 101 27]
theorem x17 : Step 17 (l16 c) (c12 a c) true (os16 c) (l16 c) (c17 a c) true (os17 c) := by unfold Step; kernel_rfl
noncomputable def c18 (a : V) (c : Nat -> Int) : List V := c17 a c ++ [.dict []]
theorem x18 : Step 18 (l16 c) (c17 a c) true (os17 c) (l16 c) (c18 a c) true (os17 c) := by unfold Step; kernel_rfl
noncomputable def dv (d : List (Str × Int)) : List (Str × V) := d.map fun p => (p.1, .int p.2)
noncomputable def ppl : List Str := [attS "p", attS "q", attS "r", attS "s"]
noncomputable def pp (i : Nat) : Str := ppl.getD i Str.empty
noncomputable def shaV (sh : Nat -> Nat -> Int) (ds : Nat -> List (Str × Int)) : List (Str × V) := [(pp 0, ent (sh 0) (dv (ds 0))), (pp 1, ent (sh 1) (dv (ds 1))), (pp 2, ent (sh 2) (dv (ds 2))), (pp 3, ent (sh 3) (dv (ds 3)))]
noncomputable def sh0 : Nat -> Nat -> Int := fun _ _ => 0
noncomputable def ds0 : Nat -> List (Str × Int) := fun _ => []
noncomputable def os19 (c : Nat -> Int) : List O := os17 c ++ [.dict (shaV sh0 ds0)]
noncomputable def c19 (a : V) (c : Nat -> Int) : List V := c18 a c ++ [.ref 29]
theorem x19 : Step 19 (l16 c) (c18 a c) true (os17 c) (l16 c) (c19 a c) true (os19 c) := by unfold Step; kernel_rfl
noncomputable def tasV : V := .dict [(pp 0, .inst 38 30), (pp 1, .inst 38 31), (pp 2, .inst 38 32), (pp 3, .inst 38 33)]
noncomputable def tasO : List O := (List.range 4).map fun i => compO [.tup [iv i, iv (i + 1)]]
noncomputable def os20 (c : Nat -> Int) : List O := os19 c ++ tasO
noncomputable def c20 (a : V) (c : Nat -> Int) : List V := c19 a c ++ [tasV]
theorem x20 : Step 20 (l16 c) (c19 a c) true (os19 c) (l16 c) (c20 a c) true (os20 c) := by unfold Step; kernel_rfl
end
noncomputable def itemV (p : Str × Int) : V := .tup [.str p.1, .int p.2]
noncomputable def sttI (d : List (Str × Int)) (x : Str) (i : Int) : List (Str × Int) := d.map fun q => if q.1 = x then (q.1, i) else q
noncomputable def updI (d : List (Str × Int)) (p : Str × Int) : List (Str × Int) := match d.lookup p.1 with
 | some j => sttI d p.1 (j + p.2)
 | none => d ++ [p]
noncomputable def addC (d r : List (Str × Int)) : List (Str × Int) := r.foldl updI d
theorem lkp_cons {α : Type} {x y : Str} {i : α} {d : List (Str × α)} : List.lookup x ((y, i) :: d) = if x = y then some i else d.lookup x := by
 rw [List.lookup_cons]
 by_cases h : x = y
 ·rw [if_pos h, h, beq_self_eq_true]
 ·rw [if_neg h, beq_false_of_ne h]
theorem lkp_mem {α : Type} {x : Str} {v : α} : ∀ {d : List (Str × α)}, d.lookup x = some v -> (x, v) ∈ d
 | (y, i) :: d, h => by
  rw [lkp_cons] at h
  by_cases e : x = y
  ·rw [if_pos e] at h; cases h; rw [e]; exact .head _
  ·rw [if_neg e] at h; exact .tail _ (lkp_mem h)
theorem lookup_dv (x : Str) : ∀ d : List (Str × Int), (dv d).lookup x = (d.lookup x).map .int
 | [] => rfl
 | (y, i) :: d => by
  have ih := lookup_dv x d
  show List.lookup x ((y, V.int i) :: dv d) = _
  rw [lkp_cons, lkp_cons]
  by_cases h : x = y
  ·rw [if_pos h, if_pos h]; rfl
  ·rw [if_neg h, if_neg h, ih]
theorem any_dv (x : Str) : ∀ d : List (Str × Int), ((dv d).any fun kv => decide (kv.1 = x)) = (d.lookup x).isSome
 | [] => rfl
 | (y, i) :: d => by
  have ih := any_dv x d
  show (decide (y = x) || (dv d).any fun kv => decide (kv.1 = x)) = _
  rw [lkp_cons, ih]
  by_cases h : x = y
  ·rw [if_pos h, decide_eq_true h.symm]; rfl
  ·rw [if_neg h, decide_eq_false (Ne.symm h)]; rfl
theorem dset_new {d : List (Str × Int)} {x : Str} {i : Int} (h : d.lookup x = none) : dset (dv d) x (.int i) = dv (d ++ [(x, i)]) := by
 unfold dset
 rw [any_dv, h, if_neg (by decide)]
 unfold dv
 rw [List.map_append]; rfl
theorem dset_upd {d : List (Str × Int)} {x : Str} {i j : Int} (h : d.lookup x = some j) : dset (dv d) x (.int i) = dv (sttI d x i) := by
 unfold dset
 rw [any_dv, h, if_pos (show (some j).isSome = true from rfl)]
 unfold dv sttI
 rw [List.map_map, List.map_map]
 apply List.map_congr_left
 intro q _
 show (if q.1 = x then (q.1, V.int i) else (q.1, V.int q.2)) = ((if q.1 = x then (q.1, i) else q).1, V.int (if q.1 = x then (q.1, i) else q).2)
 by_cases g : q.1 = x
 ·rw [if_pos g, if_pos g]
 ·rw [if_neg g, if_neg g]
theorem dv_len (d : List (Str × Int)) : (dv d).length = d.length := List.length_map ..
theorem updI_len (d : List (Str × Int)) (p : Str × Int) : (updI d p).length <= d.length + 1 := by
 unfold updI sttI
 split
 ·rw [List.length_map]; exact Nat.le_succ _
 ·rw [List.length_append]; exact Nat.le_refl _
theorem simpled_dv : ∀ d : List (Str × Int), V.simpled (dv d) = true
 | [] => rfl
 | _ :: d => simpled_dv d
noncomputable def isSubS (e : Expr) : Bool := e.ctorIdx == 21
theorem sub_of {e : Expr} (h : (e.ctorIdx == 21) = true) : ∃ o a p, e = .Subscript o a p := Expr.Subscript.elim (motive_1 := fun e => ∃ o a p, e = .Subscript o a p) e (ix_of h) fun _ _ _ => ⟨_, _, _, rfl⟩
section
variable {L : Lv} {t : Expr} {v ov w : V} {fr : Fr} {σ σ1 σ2 σ3 : List O} {b N : Nat} {d : List (Str × V)} {x : Str}
theorem asg_sub (h : isSubS t = true) (h1 : L.ev (eL t) fr σ = some (ov, σ1)) (h2 : L.ev (eR t) fr σ1 = some (w, σ2)) (h3 : setItem fr.base ov w v σ2 = some ((), σ3)) : asg L t v fr σ = some (fr, σ3) := by
 obtain ⟨o, a, p, rfl⟩ := sub_of h
 exact bindR h1 (bindR h2 (bindR h3 rfl))
theorem o_set (h : σ[N]? = some (.dict d)) (hb : (decide (b <= N) || v.simple) = true) (hl : d.length <= 1000) : setItem b (.ref N) (.str x) v σ = some ((), σ.set N (.dict (dset d x v))) := by
 have hN : N < σ.length := (List.getElem?_eq_some_iff.mp h).1
 refine bindR (a := N) (σ1 := σ) rfl (bindR (a := d) (σ1 := σ) (bindR (a := .dict d) (σ1 := σ) ?_ rfl) (bindR (guardE hb) (bindR (guardE (decide_eq_true hl)) ?_)))
 ·show (σ[N]?).map _ = _
  rw [h]; rfl
 ·show (if N < σ.length then _ else _) = _
  rw [if_pos hN]
theorem rdict_get {r : Option V} (h : σ[N]? = some (.dict d)) (h2 : d.lookup x = r) : getItem (.ref N) (.str x) σ = r.map fun v => (v, σ) := by
 refine bindR (a := d) (σ1 := σ) (bindR (a := .dict d) (σ1 := σ) ?_ rfl) ?_
 ·show (σ[N]?).map _ = _
  rw [h]; rfl
 ·show (d.lookup x).map _ = _
  rw [h2]
theorem rdict_in (h : σ[N]? = some (.dict d)) : cmp .In (.str x) (.ref N) σ = some (d.any fun kv => decide (kv.1 = x), σ) := by
 refine bindR (a := x) (σ1 := σ) rfl (bindR (a := .dict d) (σ1 := σ) ?_ rfl)
 show (σ[N]?).map _ = _
 rw [h]; rfl
end
noncomputable def NA : Nat -> Nat
 | 0 => 41
 | _ => 34
noncomputable def b56 (i : Nat) : Stmt := stL (fiOf 56).body i
section
variable {m z b : Nat} {o : Nat -> O} {a r d : List (Str × Int)} {f g : Option V} {p : Str × Int}
noncomputable def F56 (z : Nat) (a r : List (Str × Int)) (f g : Option V) : Fr := frA 56 [some (.dict (dv a)), some (.dict (dv r)), some (.ref (NA z)), f, g] [] (NA z)
noncomputable def S56 (z : Nat) (o : Nat -> O) (d : List (Str × Int)) : List O := SO (NA z) o ++ [.dict (dv d)]
theorem ac_at (hz : z < 2) : (S56 z o d)[NA z]? = some (.dict (dv d)) := en (f := fun z => (S56 z o d)[NA z]?) (g := fun z => some (.dict (dv d))) (n := 2) (by kernel_rfl) z hz
theorem ac_set (hz : z < 2) {x : Str} {i : Int} (hl : d.length <= 1000) : setItem (NA z) (.ref (NA z)) (.str x) (.int i) (S56 z o d) = some ((), SO (NA z) o ++ [.dict (dset (dv d) x (.int i))]) := by
 rw [o_set (ac_at hz) (Bool.or_true _) (by rw [dv_len]; exact hl)]
 exact congrArg some (congrArg _ (en (f := fun z => (S56 z o d).set (NA z) (.dict (dset (dv d) x (.int i)))) (g := fun z => SO (NA z) o ++ [.dict (dset (dv d) x (.int i))]) (n := 2) (by kernel_rfl) z hz))
theorem ac_asg (hz : z < 2) {st : Stmt} (hs : isAsg st = true) (ht : isSubS (sT st) = true) (hl : d.length <= 1000)
  (h1 : evA (lv m) (sE st) (F56 z a r (some (.str p.1)) (some (.int p.2))) (S56 z o d) = some (.int p.2, S56 z o d)) (h2 : (lv m).ev (eL (sT st)) (F56 z a r (some (.str p.1)) (some (.int p.2))) (S56 z o d) = some (.ref (NA z), S56 z o d))
  (h3 : (lv m).ev (eR (sT st)) (F56 z a r (some (.str p.1)) (some (.int p.2))) (S56 z o d) = some (.str p.1, S56 z o d)) (hn : d.lookup p.1 = none) :
  exStep (lv m) st (F56 z a r (some (.str p.1)) (some (.int p.2))) (S56 z o d) = some ((.next, F56 z a r (some (.str p.1)) (some (.int p.2))), S56 z o (d ++ [p])) := by
 refine st_as hs h1 (bindR (asg_sub ht h2 h3 (ac_set hz hl)) ?_)
 rw [dset_new hn]; rfl
theorem ac_t1 (hz : z < 2) (hl : d.length <= 1000) (hn : d.lookup p.1 = none) : turnS (lv (m + 9)) (sT (b56 1)) (sA (b56 1)) (itemV p) (F56 z a r f g) (S56 z o d) = some ((.next, F56 z a r (some (.str p.1)) (some (.int p.2))), S56 z o (d ++ [p])) := by
 have h0 := en (f := fun z => asg (lv (m + 9)) (sT (b56 1)) (itemV p) (F56 z a r f g) (S56 z o d)) (g := fun z => some (F56 z a r (some (.str p.1)) (some (.int p.2)), S56 z o d)) (n := 2) (by kernel_rfl) z hz
 refine bindR h0 (Eq.trans (b := exL (lv (m + 8)) [stL (sA (b56 1)) 0] (F56 z a r (some (.str p.1)) (some (.int p.2))) (S56 z o d)) (by kernel_rfl) (xNx (ac_asg hz rfl rfl hl ?_ ?_ ?_ hn) exL_nil))
 ·exact en (f := fun z => evA (lv (m + 8)) (sE (stL (sA (b56 1)) 0)) (F56 z a r (some (.str p.1)) (some (.int p.2))) (S56 z o d)) (g := fun z => some (.int p.2, S56 z o d)) (n := 2) (by kernel_rfl) z hz
 ·exact en (f := fun z => (lv (m + 8)).ev (eL (sT (stL (sA (b56 1)) 0))) (F56 z a r (some (.str p.1)) (some (.int p.2))) (S56 z o d)) (g := fun z => some (.ref (NA z), S56 z o d)) (n := 2) (by kernel_rfl) z hz
 ·exact en (f := fun z => (lv (m + 8)).ev (eR (sT (stL (sA (b56 1)) 0))) (F56 z a r (some (.str p.1)) (some (.int p.2))) (S56 z o d)) (g := fun z => some (.str p.1, S56 z o d)) (n := 2) (by kernel_rfl) z hz
theorem ac_f1 (hz : z < 2) : ∀ (q d : List (Str × Int)) (f g : Option V), d.length + q.length <= 1000 -> ((d ++ q).map (·.1)).Nodup ->
  ∃ f' g', forV noChk (turnS (lv (m + 9)) (sT (b56 1)) (sA (b56 1))) ((lv (m + 9)).exs []) (q.map itemV) (F56 z a r f g) (S56 z o d) = some ((.next, F56 z a r f' g'), S56 z o (d ++ q))
 | [], d, f, g, hl, hn => ⟨f, g, by rw [List.append_nil]; rfl⟩
 | p :: q, d, f, g, hl, hn => by
  rw [List.length_cons] at hl
  have hno : d.lookup p.1 = none := by
   cases e : d.lookup p.1 with
   | none => rfl
   | some j =>
    rw [List.map_append, List.map_cons, List.nodup_append] at hn
    exact absurd rfl (hn.2.2 p.1 (List.mem_map.mpr ⟨_, lkp_mem e, rfl⟩) p.1 (.head _))
  have h1 := ac_t1 (m := m) (o := o) (a := a) (r := r) (f := f) (g := g) hz (by lia) hno
  obtain ⟨f', g', h2⟩ := ac_f1 hz q (d ++ [p]) _ _ (by rw [List.length_append]; show d.length + 1 + _ <= _; lia) (by rw [List.append_assoc]; exact hn)
  rw [List.append_assoc] at h2
  exact ⟨f', g', fVc rfl h1 h2⟩
noncomputable def i56 : Stmt := stL (sA (b56 2)) 0
noncomputable def j56 : Stmt := stL (sA i56) 0
noncomputable def k56 : Stmt := stL (sB j56) 0
theorem ac_t2 (hz : z < 2) (hl : d.length <= 1000) : turnS (lv (m + 9)) (sT (b56 2)) (sA (b56 2)) (itemV p) (F56 z a r f g) (S56 z o d) = some ((.next, F56 z a r (some (.str p.1)) (some (.int p.2))), S56 z o (updI d p)) := by
 have h0 := en (f := fun z => asg (lv (m + 9)) (sT (b56 2)) (itemV p) (F56 z a r f g) (S56 z o d)) (g := fun z => some (F56 z a r (some (.str p.1)) (some (.int p.2)), S56 z o d)) (n := 2) (by kernel_rfl) z hz
 have e1 := en (f := fun z => (lv (m + 7)).ev (eL (sT i56)) (F56 z a r (some (.str p.1)) (some (.int p.2))) (S56 z o d)) (g := fun z => some (.str p.1, S56 z o d)) (n := 2) (by kernel_rfl) z hz
 have e2 := en (f := fun z => (lv (m + 7)).ev (eR (sT i56)) (F56 z a r (some (.str p.1)) (some (.int p.2))) (S56 z o d)) (g := fun z => some (.ref (NA z), S56 z o d)) (n := 2) (by kernel_rfl) z hz
 have ht : (lv (m + 8)).tr (sT i56) (F56 z a r (some (.str p.1)) (some (.int p.2))) (S56 z o d) = some ((d.lookup p.1).isSome, S56 z o d) := by
  rw [<- any_dv]
  exact tr_cmp (L := lv (m + 7)) (e := sT i56) rfl e1 e2 (rdict_in (ac_at hz))
 refine bindR h0 (Eq.trans (b := exL (lv (m + 8)) [i56] (F56 z a r (some (.str p.1)) (some (.int p.2))) (S56 z o d)) (by kernel_rfl) (xNx (st_if rfl ht ?_) exL_nil))
 unfold updI
 cases hj : d.lookup p.1 with
 | none =>
  refine Eq.trans (b := exL (lv (m + 7)) [stL (sB i56) 0] (F56 z a r (some (.str p.1)) (some (.int p.2))) (S56 z o d)) (by kernel_rfl) (xNx (ac_asg hz rfl rfl hl ?_ ?_ ?_ hj) exL_nil)
  ·exact en (f := fun z => evA (lv (m + 7)) (sE (stL (sB i56) 0)) (F56 z a r (some (.str p.1)) (some (.int p.2))) (S56 z o d)) (g := fun z => some (.int p.2, S56 z o d)) (n := 2) (by kernel_rfl) z hz
  ·exact en (f := fun z => (lv (m + 7)).ev (eL (sT (stL (sB i56) 0))) (F56 z a r (some (.str p.1)) (some (.int p.2))) (S56 z o d)) (g := fun z => some (.ref (NA z), S56 z o d)) (n := 2) (by kernel_rfl) z hz
  ·exact en (f := fun z => (lv (m + 7)).ev (eR (sT (stL (sB i56) 0))) (F56 z a r (some (.str p.1)) (some (.int p.2))) (S56 z o d)) (g := fun z => some (.str p.1, S56 z o d)) (n := 2) (by kernel_rfl) z hz
 | some j =>
  have h2 := en (f := fun z => (lv (m + 7)).tr (sT j56) (F56 z a r (some (.str p.1)) (some (.int p.2))) (S56 z o d)) (g := fun z => some (false, S56 z o d)) (n := 2) (by kernel_rfl) z hz
  refine Eq.trans (b := exL (lv (m + 7)) [j56] (F56 z a r (some (.str p.1)) (some (.int p.2))) (S56 z o d)) (by kernel_rfl) (xNx (st_if rfl h2 ?_) exL_nil)
  refine Eq.trans (b := exL (lv (m + 6)) [k56] (F56 z a r (some (.str p.1)) (some (.int p.2))) (S56 z o d)) (by kernel_rfl) (xNx ?_ exL_nil)
  have g1 := en (f := fun z => (lv (m + 6)).ev (eL (sT k56)) (F56 z a r (some (.str p.1)) (some (.int p.2))) (S56 z o d)) (g := fun z => some (.ref (NA z), S56 z o d)) (n := 2) (by kernel_rfl) z hz
  have g2 := en (f := fun z => (lv (m + 6)).ev (eR (sT k56)) (F56 z a r (some (.str p.1)) (some (.int p.2))) (S56 z o d)) (g := fun z => some (.str p.1, S56 z o d)) (n := 2) (by kernel_rfl) z hz
  have g3 : getItem (.ref (NA z)) (.str p.1) (S56 z o d) = some (.int j, S56 z o d) := rdict_get (r := some (.int j)) (ac_at hz) (by rw [lookup_dv, hj]; rfl)
  have g4 := en (f := fun z => (lv (m + 6)).ev (sE k56) (F56 z a r (some (.str p.1)) (some (.int p.2))) (S56 z o d)) (g := fun z => some (.int p.2, S56 z o d)) (n := 2) (by kernel_rfl) z hz
  have g5 := ac_set (o := o) (x := p.1) (i := j + p.2) hz hl
  rw [dset_upd hj] at g5
  refine Eq.trans (b := (guardM (notSlice (eR (sT k56))) >>= fun _ => (lv (m + 6)).ev (eL (sT k56)) (F56 z a r (some (.str p.1)) (some (.int p.2))) >>= fun ov => (lv (m + 6)).ev (eR (sT k56)) (F56 z a r (some (.str p.1)) (some (.int p.2))) >>= fun iv => getItem ov iv >>= fun old => (lv (m + 6)).ev (sE k56) (F56 z a r (some (.str p.1)) (some (.int p.2))) >>= fun v => augop .Add old v >>= fun r' => setItem (NA z) ov iv r' >>= fun _ => pure (Fl.next, F56 z a r (some (.str p.1)) (some (.int p.2)))) (S56 z o d)) (by kernel_rfl) ?_
  exact bindR (guardE rfl) (bindR g1 (bindR g2 (bindR g3 (bindR g4 (bindR (a := .int (j + p.2)) (σ1 := S56 z o d) rfl (bindR g5 rfl))))))
theorem ac_f2 (hz : z < 2) : ∀ (q d : List (Str × Int)) (f g : Option V), d.length + q.length <= 1000 ->
  ∃ f' g', forV noChk (turnS (lv (m + 9)) (sT (b56 2)) (sA (b56 2))) ((lv (m + 9)).exs []) (q.map itemV) (F56 z a r f g) (S56 z o d) = some ((.next, F56 z a r f' g'), S56 z o (addC d q))
 | [], d, f, g, hl => ⟨f, g, rfl⟩
 | p :: q, d, f, g, hl => by
  rw [List.length_cons] at hl
  have h1 := ac_t2 (m := m) (o := o) (a := a) (r := r) (f := f) (g := g) (p := p) hz (d := d) (by lia)
  have hu := updI_len d p
  obtain ⟨f', g', h2⟩ := ac_f2 hz q (updI d p) _ _ (by lia)
  exact ⟨f', g', fVc rfl h1 h2⟩
theorem dv_items (d : List (Str × Int)) : ((dv d).map fun kv => V.tup [.str kv.1, kv.2]) = d.map itemV := List.map_map ..
theorem call_ac (hz : z < 2) (h1 : (a.map (·.1)).Nodup) (h2 : a.length + r.length <= 900) (ha : (a.all fun p => !isQ p.1) = true) (hb : (r.all fun p => !isQ p.1) = true) :
  (lv (m + 12)).call b (.con (.ref 56)) [.dict (dv a), .dict (dv r)] (SO (NA z) o) = some (.dict (dv (addC a r)), SO (NA z) o) := by
 rw [call_fn (m := m + 11) rfl rfl rfl]
 have ai : ((dv a).all fun kv => !isQ kv.1) = true := by unfold dv; rw [List.all_map]; exact ha
 have bi : ((dv r).all fun kv => !isQ kv.1) = true := by unfold dv; rw [List.all_map]; exact hb
 refine hd fun P0 q0 => ?_
 obtain ⟨f1, g1, e1⟩ := ac_f1 (m := m + 1) (o := o) (a := a) (r := r) hz a [] none none (by show 0 + _ <= _; lia) h1
 obtain ⟨f2, g2, e2⟩ := ac_f2 (m := m + 1) (o := o) (a := a) (r := r) hz r a f1 g1 (by lia)
 refine q0 ?_
 have hx : exL (lv (m + 10)) [b56 1, b56 2, b56 3] (F56 z a r none none) (S56 z o []) = some ((.ret (.ref (NA z)), F56 z a r f2 g2), S56 z o (addC a r)) := by
  have s1 : exStep (lv (m + 10)) (b56 1) (F56 z a r none none) (S56 z o []) = some ((.next, F56 z a r f1 g1), S56 z o a) := by
   refine (en (f := fun z => exStep (lv (m + 10)) (b56 1) (F56 z a r none none) (S56 z o [])) (g := fun z => ((guardM ((dv a).all fun kv => !isQ kv.1) >>= fun _ => pure ((dv a).map fun kv => V.tup [.str kv.1, kv.2], noChk)) >>= fun q => forV q.2 (turnS (lv (m + 10)) (sT (b56 1)) (sA (b56 1))) ((lv (m + 10)).exs []) q.1 (F56 z a r none none)) (S56 z o [])) (n := 2) (by kernel_rfl) z hz).trans ?_
   rw [dv_items]
   exact bindR (bindR (guardE ai) rfl) e1
  have s2 : exStep (lv (m + 10)) (b56 2) (F56 z a r f1 g1) (S56 z o a) = some ((.next, F56 z a r f2 g2), S56 z o (addC a r)) := by
   refine (en (f := fun z => exStep (lv (m + 10)) (b56 2) (F56 z a r f1 g1) (S56 z o a)) (g := fun z => ((guardM ((dv r).all fun kv => !isQ kv.1) >>= fun _ => pure ((dv r).map fun kv => V.tup [.str kv.1, kv.2], noChk)) >>= fun q => forV q.2 (turnS (lv (m + 10)) (sT (b56 2)) (sA (b56 2))) ((lv (m + 10)).exs []) q.1 (F56 z a r f1 g1)) (S56 z o a)) (n := 2) (by kernel_rfl) z hz).trans ?_
   rw [dv_items]
   exact bindR (bindR (guardE bi) rfl) e2
  exact xNx s1 (xNx s2 (exL_ret (en (f := fun z => exStep (lv (m + 10)) (b56 3) (F56 z a r f2 g2) (S56 z o (addC a r))) (g := fun z => some ((.ret (.ref (NA z)), F56 z a r f2 g2), S56 z o (addC a r))) (n := 2) (by kernel_rfl) z hz)))
 refine (en (f := fun z => callFn (lv (m + 11)) b (fiOf 56) [] [.dict (dv a), .dict (dv r)] (SO (NA z) o)) (g := fun z => (exL (lv (m + 10)) [b56 1, b56 2, b56 3] (F56 z a r none none) >>= fun r => endFn false (SO (NA z) o) (flV r.1)) (S56 z o [])) (n := 2) (by kernel_rfl) z hz).trans (bindR hx ?_)
 refine endF (b := 0) ?_ (en (f := fun z => (S56 z o (addC a r)).take (SO (NA z) o).length) (g := fun z => SO (NA z) o) (n := 2) (by kernel_rfl) z hz)
 refine (en (f := fun z => frz (SO (NA z) o).length (S56 z o (addC a r)) (.ref (NA z))) (g := fun z => if V.simpled (dv (addC a r)) then some (.dict (dv (addC a r))) else none) (n := 2) (by kernel_rfl) z hz).trans ?_
 rw [simpled_dv]; rfl
end
structure DS where
 o : Nat -> O
 ln : Int
 pa : List V
 pb : List V
 sh : Nat -> Nat -> Int
 ds : Nat -> List (Str × Int)
 w : Option V
 mu : List V
 tk : List V
 th : List V
 ow : List V
noncomputable def DS.st (D : DS) : List O := SO 22 D.o ++ ([lexO D.ln 20 23, .list D.pa, D.o 24, D.o 25, D.o 26, lexO 1 25 28, .list D.pb, .dict (shaV D.sh D.ds)] ++ (tasO ++ [.cell (some (.inst 101 27)), .cell (some (.ref 29)), .cell D.w, .list D.mu, .list D.tk, .list D.th, .list D.ow]))
noncomputable def wantL (sh : Nat -> Nat -> Int) (o : Nat) : List Nat := [0, 1, 2, 3].filter fun j => decide (sh j j < sh o j)
noncomputable def wanN (sh : Nat -> Nat -> Int) (o : Nat) : V := .list (strL ((wantL sh o).map pp))
noncomputable def wanK (sh : Nat -> Nat -> Int) (k : Nat) : List (Str × V) := (List.range k).map fun i => (pp i, wanN sh i)
noncomputable def wanV (sh : Nat -> Nat -> Int) : V := .dict [(pp 0, wanN sh 0), (pp 1, wanN sh 1), (pp 2, wanN sh 2), (pp 3, wanN sh 3)]
noncomputable def ppV (k : Nat) : V := .str (pp k)
noncomputable def b193 (i : Nat) : Stmt := stL (fiOf 193).body i
noncomputable def q193 : Stmt := stL (sA (b193 1)) 0
noncomputable def l193 : Expr := sE q193
noncomputable def e193 : Expr := eAt (eG1 l193 0).ifs 0
theorem sub_cmp (w u : Nat -> Int) (j : Nat) : decide (0 < cmpC [(j, ((j + 1 : Nat) : Int))] w u) = decide (u j < w j) := by
 rw [cmpC_c]
 by_cases h1 : w j < u j
 ·rw [if_pos h1, decide_eq_false (by lia), decide_eq_false (by lia)]
 ·rw [if_neg h1]
  by_cases h2 : u j < w j
  ·rw [if_pos h2, decide_eq_true h2, decide_eq_true (by lia)]
  ·rw [if_neg h2, decide_eq_false h2]; rfl
theorem gt_call {m b : Nat} {σ : List O} {x y : Int} : (lv (m + 4)).call b (.con (.ref 126)) [.int x, .int y] σ = some (.bool (decide (y < x)), σ) := by rw [call_gt, List.take_length]
theorem filt_one {α : Type} {p : α -> Bool} {f : α -> V} : ∀ L : List α, (L.flatMap fun o => if p o then [f o] else []) = (L.filter p).map f
 | [] => rfl
 | x :: L => by
  rw [List.flatMap_cons, filt_one L, List.filter_cons]
  cases p x <;> rfl
noncomputable def plainN (es : List Expr) (n : Nat) : Bool := es.length == n && es.all fun e => !isStarred e
section
variable {L : Lv} {es : List Expr} {fr : Fr} {σ σ1 σ2 σ3 : List O} {a b c : V}
theorem plain_at {n : Nat} (h : plainN es n = true) : es = (List.range n).map (eAt es) /\ ∀ i, i < n -> isStarred (eAt es i) = false := by
 rw [plainN, Bool.and_eq_true, beq_iff_eq] at h
 obtain ⟨rfl, h⟩ := h
 have e : ∀ i (hi : i < es.length), eAt es i = es[i] := fun i hi => by unfold eAt; rw [List.getD_eq_getElem?_getD, List.getElem?_eq_getElem hi]; rfl
 refine ⟨List.ext_getElem (by rw [List.length_map, List.length_range]) fun i h1 h2 => ?_, fun i hi => ?_⟩
 ·rw [List.getElem_map, List.getElem_range, e i h1]
 ·rw [e i hi]
  exact Bool.not_eq_true' _ ▸ List.all_eq_true.mp h _ (List.getElem_mem hi)
theorem evs1 (h : plainN es 1 = true) (h1 : L.ev (eAt es 0) fr σ = some (a, σ1)) : evs L es fr σ = some ([a], σ1) := by
 obtain ⟨e, s⟩ := plain_at h
 rw [e]
 exact eVc (s 0 (by decide)) h1 evs_nil
theorem evs2 (h : plainN es 2 = true) (h1 : L.ev (eAt es 0) fr σ = some (a, σ1)) (h2 : L.ev (eAt es 1) fr σ1 = some (b, σ2)) : evs L es fr σ = some ([a, b], σ2) := by
 obtain ⟨e, s⟩ := plain_at h
 rw [e]
 exact eVc (s 0 (by decide)) h1 (eVc (s 1 (by decide)) h2 evs_nil)
theorem evs3 (h : plainN es 3 = true) (h1 : L.ev (eAt es 0) fr σ = some (a, σ1)) (h2 : L.ev (eAt es 1) fr σ1 = some (b, σ2)) (h3 : L.ev (eAt es 2) fr σ2 = some (c, σ3)) : evs L es fr σ = some ([a, b, c], σ3) := by
 obtain ⟨e, s⟩ := plain_at h
 rw [e]
 exact eVc (s 0 (by decide)) h1 (eVc (s 1 (by decide)) h2 (eVc (s 2 (by decide)) h3 evs_nil))
end
section
variable {m i : Nat} {D : DS} {d : List (Str × V)} {n : Option V}
noncomputable def F193 : Fr := frA 193 [some (.ref 44)] [("one", 43), ("tastes", 42), ("shares", 41)] 41
noncomputable def S193 (D : DS) (n : Option V) (d : List (Str × V)) : List O := D.st ++ [.cell (some (.ref 29)), .cell (some tasV), .cell n, .dict d]
noncomputable def C193 (D : DS) (i : Nat) (d : List (Str × V)) : Fr := cfr l193 F193 (S193 D (some (ppV i)) d)
theorem wa_test (hi : i < 4) {j : Nat} (hj : j < 4) : turn1 (lv (m + 20)) (eG1 l193 0) (C193 D i d) (emitL (lv (m + 20)) l193) (ppV j) (S193 D (some (ppV i)) d) = some (if decide (D.sh j j < D.sh i j) then [ppV j] else [], S193 D (some (ppV i)) d) := by
 refine turn_if (fr1 := cf1 l193 F193 (S193 D (some (ppV i)) d) [ppV j]) (by kernel_rfl) ?_ (by kernel_rfl)
 refine Eq.trans (b := tests (lv (m + 20)) [e193] (cf1 l193 F193 (S193 D (some (ppV i)) d) [ppV j]) (S193 D (some (ppV i)) d)) (by kernel_rfl) (tests_one ?_)
 have h1 : (lv (m + 18)).ev (eAt (eA (eL e193)) 0) (cf1 l193 F193 (S193 D (some (ppV i)) d) [ppV j]) (S193 D (some (ppV i)) d) = some (.int (cmpC [(j, ((j + 1 : Nat) : Int))] (D.sh i) (D.sh j)), S193 D (some (ppV i)) d) := by
  have g0 := en (f := fun j => (lv (m + 17)).ev (eL (eL (eAt (eA (eL e193)) 0))) (cf1 l193 F193 (S193 D (some (ppV i)) d) [ppV j]) (S193 D (some (ppV i)) d)) (g := fun j => some (.inst 38 (30 + j), S193 D (some (ppV i)) d)) (n := 4) (by kernel_rfl) j hj
  have g1 := en2 (f := fun i j => evs (lv (m + 17)) (eA (eAt (eA (eL e193)) 0)) (cf1 l193 F193 (S193 D (some (ppV i)) d) [ppV j]) (S193 D (some (ppV i)) d)) (g := fun i j => some ([ent (D.sh i) (dv (D.ds i)), ent (D.sh j) (dv (D.ds j))], S193 D (some (ppV i)) d)) (a := 4) (b := 4) (by kernel_rfl) i hi j hj
  have g2 := en (f := fun j => methTag (.inst 38 (30 + j)) (eX (eL (eAt (eA (eL e193)) 0))) (S193 D (some (ppV i)) d)) (g := fun j => some (.fn 35, S193 D (some (ppV i)) d)) (n := 4) (by kernel_rfl) j hj
  have g3 := en (f := fun j => (S193 D (some (ppV i)) d)[30 + j]?) (g := fun j => some (compO ([(j, ((j + 1 : Nat) : Int))].map colV))) (n := 4) (by kernel_rfl) j hj
  exact ev_meth (L := lv (m + 17)) (e := eAt (eA (eL e193)) 0) rfl g0 g2 g1 (call_cmp (m := m + 10) g3 (fun p hp => by rw [List.mem_singleton.mp hp]; exact hj))
 have h3 := ev_call (L := lv (m + 18)) (e := eL e193) (a := .con (.ref 126)) (σ := S193 D (some (ppV i)) d) (σ1 := S193 D (some (ppV i)) d) rfl (by kernel_rfl) rfl (evs2 (es := eA (eL e193)) (b := .int 0) (σ2 := S193 D (some (ppV i)) d) rfl h1 (by kernel_rfl)) (gt_call (m := m + 14))
 rw [sub_cmp] at h3
 exact tr_cmp (L := lv (m + 19)) (e := e193) rfl h3 (b := .bool true) (σ2 := S193 D (some (ppV i)) d) (by kernel_rfl) is_true
theorem wa_turn (hi : i < 4) (hn : n = none ∨ n = some (ppV (i - 1))) : turnS (lv (m + 23)) (sT (b193 1)) (sA (b193 1)) (ppV i) F193 (S193 D n (wanK D.sh i)) = some ((.next, F193), S193 D (some (ppV i)) (wanK D.sh (i + 1))) := by
 have ht := tPu (chk := noChk) (σ := S193 D (some (ppV i)) (wanK D.sh i)) (f := turn1 (lv (m + 22)) (eG1 l193 0) (C193 D i (wanK D.sh i)) (emitL (lv (m + 22)) l193)) (t := ppV) (vs := [0, 1, 2, 3]) rfl fun j hj => wa_test (m := m + 2) hi ((by decide : ∀ j ∈ [0, 1, 2, 3], j < 4) j hj)
 rw [filt_one] at ht
 have h1 : evA (lv (m + 22)) l193 F193 (S193 D (some (ppV i)) (wanK D.sh i)) = some (wanN D.sh i, S193 D (some (ppV i)) (wanK D.sh i)) := by
  unfold wanN strL
  rw [List.map_map]
  exact ev_lc (L := lv (m + 22)) (e := l193) rfl (by kernel_rfl) (chk := noChk) (items := [0, 1, 2, 3].map ppV) (by kernel_rfl) (by kernel_rfl) ht (decide_eq_true (by
   rw [List.length_map]
   exact Nat.le_trans (List.length_filter_le ..) (by decide))) (sMp (fun _ => rfl) _)
 have h0 : asg (lv (m + 23)) (sT (b193 1)) (ppV i) F193 (S193 D n (wanK D.sh i)) = some (F193, S193 D (some (ppV i)) (wanK D.sh i)) := by kernel_rfl
 refine bindR h0 (Eq.trans (b := exL (lv (m + 22)) [q193] F193 (S193 D (some (ppV i)) (wanK D.sh i))) (by kernel_rfl) (xNx (st_as rfl h1 ?_) exL_nil))
 refine bindR (asg_sub (L := lv (m + 22)) (t := sT q193) rfl (ov := .ref 44) (σ1 := S193 D (some (ppV i)) (wanK D.sh i)) (by kernel_rfl) (w := ppV i) (σ2 := S193 D (some (ppV i)) (wanK D.sh i)) (by kernel_rfl) (o_set (N := 44) (d := wanK D.sh i) rfl rfl ?_)) ?_
 ·unfold wanK
  rw [List.length_map, List.length_range]; lia
 ·exact en (f := fun i => (pure (Fl.next, F193) : M _) ((S193 D (some (ppV i)) (wanK D.sh i)).set 44 (.dict (dset (wanK D.sh i) (pp i) (wanN D.sh i))))) (g := fun i => some ((Fl.next, F193), S193 D (some (ppV i)) (wanK D.sh (i + 1)))) (n := 4) (by kernel_rfl) i hi
theorem call_wants {b : Nat} : (lv (m + 26)).call b (.con (.ref 193)) [.ref 29, tasV] D.st = some (wanV D.sh, D.st) := by
 rw [call_fn (m := m + 25) rfl rfl rfl]
 have hf : forV noChk (turnS (lv (m + 24)) (sT (b193 1)) (sA (b193 1))) ((lv (m + 24)).exs []) ([0, 1, 2, 3].map ppV) F193 (S193 D none (wanK D.sh 0)) = some ((.next, F193), S193 D (some (ppV 3)) (wanK D.sh 4)) :=
  fVc rfl (wa_turn (m := m + 1) (i := 0) (by decide) (.inl rfl)) (fVc rfl (wa_turn (m := m + 1) (i := 1) (by decide) (.inr rfl)) (fVc rfl (wa_turn (m := m + 1) (i := 2) (by decide) (.inr rfl)) (fVc rfl (wa_turn (m := m + 1) (i := 3) (by decide) (.inr rfl)) rfl)))
 refine Eq.trans (b := ((forV noChk (turnS (lv (m + 24)) (sT (b193 1)) (sA (b193 1))) ((lv (m + 24)).exs []) ([0, 1, 2, 3].map ppV) F193 >>= fun r => (match r.1 with | .next => exL (lv (m + 24)) [b193 2] r.2 | fl => pure (fl, r.2))) >>= fun r => endFn false D.st (flV r.1)) (S193 D none (wanK D.sh 0))) (by kernel_rfl) ?_
 refine bindR (bindR hf (Eq.refl (some ((Fl.ret (.ref 44), F193), S193 D (some (ppV 3)) (wanK D.sh 4))))) (endF (b := 0) (u := wanV D.sh) ?_ (by kernel_rfl))
 show (if V.simpled (wanK D.sh 4) then some (V.dict (wanK D.sh 4)) else none) = some (wanV D.sh)
 have : V.simpled (wanK D.sh 4) = true := by
  show ((wanN D.sh 0).simple && ((wanN D.sh 1).simple && ((wanN D.sh 2).simple && ((wanN D.sh 3).simple && true)))) = true
  have h : ∀ i, (wanN D.sh i).simple = true := fun i => sSL _
  rw [h, h, h, h]; rfl
 rw [if_pos this]; rfl
end
noncomputable def upd {α : Type} (f : Nat -> α) (x : Nat) (w : α) (i : Nat) : α := if i = x then w else f i
noncomputable def prv (rg : List Nat) (k : Nat) : Nat := rg.getD (if k = 0 then rg.length - 1 else k - 1) 0
noncomputable def rotN {α : Type} (f : Nat -> α) (rg : List Nat) : Nat -> Nat -> α
 | 0 => f
 | k + 1 => upd (rotN f rg k) (rg.getD k 0) (f (prv rg k))
theorem sha_set {f : Nat -> Nat -> Int} {g : Nat -> List (Str × Int)} {w : Nat -> Int} {d : List (Str × Int)} (x : Nat) (hx : x < 4) : dset (shaV f g) (pp x) (ent w (dv d)) = shaV (upd f x w) (upd g x d) :=
 en (f := fun x => dset (shaV f g) (pp x) (ent w (dv d))) (g := fun x => shaV (upd f x w) (upd g x d)) (n := 4) (by kernel_rfl) x hx
theorem ent_simple (w : Nat -> Int) (d : List (Str × Int)) : (ent w (dv d)).simple = true := by
 show (V.simpled (dv d) && true) = true
 rw [simpled_dv]; rfl
theorem rng_ok : ∀ s : Nat, s < 2 -> ∀ n : Nat, n < 200 -> (rngOk s (s + n : Nat) 1 && decide (rngLen s (s + n : Nat) 1 <= lim)) = true /\ rngLen s (s + n : Nat) 1 = n := by decide +kernel
theorem ints_from : ∀ n s : Nat, intsFrom s 1 n = (List.range' s n).map iv
 | 0, _ => rfl
 | n + 1, s => congrArg (V.int s :: ·) (ints_from n (s + 1))
theorem it_rng {n s : Nat} (hs : s < 2) (h : n < 200) {σ : List O} : itOf (.rng s (s + n : Nat) 1) σ = some (((List.range' s n).map iv, noChk), σ) := by
 obtain ⟨h1, h2⟩ := rng_ok s hs n h
 refine bindR (guardE h1) ?_
 rw [h2, ints_from]; rfl
section
variable {m b N : Nat} {σ : List O} {d : List (Str × V)} {x : Str} {v : V} {l : List V} {i : Int} {j : Nat}
theorem list_get (h : pick l i = some v) : getItem (.list l) (.int i) σ = some (v, σ) := bindR (a := l) (σ1 := σ) rfl (liftE h)
theorem pick_nat {k : Nat} : pick l (k : Int) = l[k]? := if_pos (Int.natCast_nonneg k)
theorem pick_last {l : List V} : pick (l ++ [v]) (-1) = some v := by
 have : idx (l ++ [v]).length (-1) = some l.length := by
  unfold idx
  rw [List.length_append]
  rw [if_neg (by decide), if_pos (by show 0 <= -1 + ((l.length + 1 : Nat) : Int); lia)]
  exact congrArg some (by show (-1 + ((l.length + 1 : Nat) : Int)).toNat = _; lia)
 unfold pick
 rw [if_neg (by decide), this]
 exact List.getElem?_concat_length
theorem call_set (h : σ[N]? = some (.dict d)) (hs : v.simple = true) (hl : d.length <= 1000) : (lv (m + 4)).call b (.con (.ref 154)) [.ref N, .str x, v] σ = some (.none, σ.set N (.dict (dset d x v))) := by
 rw [call_fn (m := m + 3) rfl rfl rfl]
 refine Eq.trans (b := (exL (lv (m + 2)) [stL (fiOf 154).body 0] (frA 154 [some (.ref N), some (.str x), some v] [] σ.length) >>= fun r => endFn false σ (flV r.1)) σ) (by kernel_rfl) ?_
 refine bindR (xNx (st_as (L := lv (m + 2)) (v := v) (σ1 := σ) rfl (by kernel_rfl) (bindR (asg_sub (L := lv (m + 2)) (ov := .ref N) (w := .str x) (σ1 := σ) (σ2 := σ) rfl (by kernel_rfl) (by kernel_rfl) (o_set h (by rw [hs, Bool.or_true]) hl)) rfl)) exL_nil) (endF (b := 0) rfl ?_)
 rw [show σ.length = (σ.set N (.dict (dset d x v))).length from (List.length_set ..).symm, List.take_length]
theorem call_get (h : σ[N]? = some (.dict d)) (h2 : d.lookup x = some v) (hs : v.simple = true) : (lv (m + 5)).call b (.con (.ref 140)) [.ref N, .str x] σ = some (v, σ) := by
 rw [call_fn (m := m + 4) rfl rfl rfl]
 refine Eq.trans (b := (exL (lv (m + 3)) [stL (fiOf 140).body 0] (frA 140 [some (.ref N), some (.str x)] [] σ.length) >>= fun r => endFn false σ (flV r.1)) σ) (by kernel_rfl) ?_
 refine bindR (exL_ret (bindR (liftE rfl) (bindR (a := v) (σ1 := σ) (ev_sub (L := lv (m + 2)) (e := sE (stL (fiOf 140).body 0)) (a := .ref N) (b := .str x) (σ1 := σ) (σ2 := σ) rfl (by kernel_rfl) (by kernel_rfl) (by rw [rdict_get h h2]; rfl)) rfl))) (endF (b := 0) ?_ List.take_length)
 show frz σ.length σ v = _
 unfold frz
 rw [if_pos hs]
end
noncomputable def hd81 (c i : Nat) : Nat := (i + 1 + c / 3 ^ i % 3) % 4
noncomputable def pathN (h : Nat -> Nat) : Nat -> List Nat -> List Nat
 | 0, p => p
 | n + 1, p => if h (p.getLastD 0) ∈ p then p else pathN h n (p ++ [h (p.getLastD 0)])
noncomputable def pthN (h : Nat -> Nat) : List Nat := pathN h 4 [0]
noncomputable def ringN (h : Nat -> Nat) : List Nat := (pthN h).drop ((pthN h).idxOf (h ((pthN h).getLastD 0)))
noncomputable def wanH (h : Nat -> Nat) (t : Nat -> List V) : V := .dict [(pp 0, .list (ppV (h 0) :: t 0)), (pp 1, .list (ppV (h 1) :: t 1)), (pp 2, .list (ppV (h 2) :: t 2)), (pp 3, .list (ppV (h 3) :: t 3))]
noncomputable def b198 (i : Nat) : Stmt := stL (fiOf 198).body i
section
variable {m b c : Nat} {D : DS} {w : V} {t : Nat -> List V} {rg : List Nat} {P : List V} {x : Option V}
noncomputable def F198 (w : V) : Fr := frA 198 [some w, some (.ref 44)] [("held", 43), ("ring", 42), ("shares", 41)] 41
noncomputable def S198 (D : DS) (P : List V) (rg : List Nat) (x : Option V) : List O := D.st ++ [.cell (some (.ref 29)), .cell (some (.list (rg.map ppV))), .cell x, .list P]
theorem tn_path (hc : c < 81) : callFn (lv (m + 30)) b (fiOf 198) [] [.ref 29, wanH (hd81 c) t] D.st = (exL (lv (m + 29)) [b198 3, b198 4] (F198 (wanH (hd81 c) t)) >>= fun r => endFn false D.st (flV r.1)) (S198 D ((pthN (hd81 c)).map ppV) (ringN (hd81 c)) none) :=
 en (f := fun c => callFn (lv (m + 30)) b (fiOf 198) [] [.ref 29, wanH (hd81 c) t] D.st) (g := fun c => (exL (lv (m + 29)) [b198 3, b198 4] (F198 (wanH (hd81 c) t)) >>= fun r => endFn false D.st (flV r.1)) (S198 D ((pthN (hd81 c)).map ppV) (ringN (hd81 c)) none)) (n := 81) (by kernel_rfl) c hc
end
theorem pick_prv {f : Nat -> V} {rg : List Nat} {k : Nat} (h : k < rg.length) : pick (rg.map f) ((k : Int) - 1) = some (f (prv rg k)) := by
 have key : ∀ j, j < rg.length -> (rg.map f)[j]? = some (f (rg.getD j 0)) := fun j hj => by
  rw [List.getElem?_map, List.getD_eq_getElem?_getD, List.getElem?_eq_getElem hj]; rfl
 unfold pick prv
 cases k with
 | zero =>
  rw [if_neg (by decide), if_pos rfl]
  have : idx (rg.map f).length ((0 : Nat) - 1 : Int) = some (rg.length - 1) := by
   unfold idx
   rw [List.length_map, if_neg (by decide), if_pos (by lia)]
   exact congrArg some (by lia)
  rw [this]
  exact key _ (by lia)
 | succ k =>
  rw [if_pos (by lia), if_neg (Nat.succ_ne_zero k), show (((k + 1 : Nat) : Int) - 1).toNat = k by lia]
  exact key k (by lia)
theorem pick_map {f : Nat -> V} {rg : List Nat} {k : Nat} (h : k < rg.length) : pick (rg.map f) (k : Int) = some (f (rg.getD k 0)) := by
 rw [pick_nat, List.getElem?_map, List.getD_eq_getElem?_getD, List.getElem?_eq_getElem h]; rfl
theorem rng_call {m b : Nat} {σ : List O} {n : Int} : (lv (m + 1)).call b (.con (.type "range")) [.int n] σ = some (.rng 0 n 1, σ) := by kernel_rfl
theorem it_rngC {L : Lv} {t e : Expr} {fr : Fr} {σ : List O} {n : Nat} (h0 : callBy "zip" 2 e = none) (h : L.ev e fr σ = some (.rng 0 n 1, σ)) (hn : n < 200) : iterSrcC L t e fr σ = some ((it n, noChk), σ) := by
 unfold iterSrcC
 rw [h0]
 refine bindR h (bindR (guardE rfl) ?_)
 have := it_rng (s := 0) (by decide) hn (σ := σ)
 rw [Nat.zero_add] at this
 exact this
theorem nones_flat : ∀ n k : Nat, ((List.range' k n).flatMap fun _ => [V.none]) = nones n
 | 0, _ => rfl
 | n + 1, k => congrArg (V.none :: ·) (nones_flat n (k + 1))
theorem nones_simple : ∀ n, V.simples (nones n) = true
 | 0 => rfl
 | n + 1 => nones_simple n
noncomputable def DS.rot (D : DS) (rg : List Nat) (k : Nat) : DS := { D with sh := rotN D.sh rg k, ds := rotN D.ds rg k }
noncomputable def entS (D : DS) (i : Nat) : V := ent (D.sh i) (dv (D.ds i))
noncomputable def l148 : Expr := sE (b198 3)
noncomputable def l149 : Expr := sE (b198 4)
section
variable {m b c : Nat} {D : DS} {w : V} {t : Nat -> List V} {rg : List Nat} {P : List V} {x : Option V}
noncomputable def R198 (D : DS) (P : List V) (rg : List Nat) (k : Nat) : List O := S198 (D.rot rg k) P rg (some (.list (rg.map (entS D))))
theorem tn_held (hr : ∀ i ∈ rg, i < 4) (hl : rg.length < 100) : exStep (lv (m + 9)) (b198 3) (F198 w) (S198 D P rg none) = some ((.next, F198 w), R198 D P rg 0) := by
 have ht := tPu (chk := noChk) (σ := S198 D P rg none) (f := turn1 (lv (m + 9)) (eG1 l148 0) (cfr l148 (F198 w) (S198 D P rg none)) (emitL (lv (m + 9)) l148)) (t := ppV) (w := fun i => [entS D i]) rfl fun i hi => by
  refine tGo (fr1 := cf1 l148 (F198 w) (S198 D P rg none) [ppV i]) (by kernel_rfl) rfl (mOf ?_)
  refine ev_call (L := lv (m + 8)) (e := eL l148) (a := .con (.ref 140)) (σ1 := S198 D P rg none) rfl (by kernel_rfl) rfl (evs2 (es := eA (eL l148)) (a := .ref 29) (b := ppV i) (σ1 := S198 D P rg none) (σ2 := S198 D P rg none) rfl (by kernel_rfl) (by kernel_rfl)) (call_get (m := m + 3) (d := shaV D.sh D.ds) rfl ?_ (ent_simple _ _))
  exact en (f := fun i => (shaV D.sh D.ds).lookup (pp i)) (g := fun i => some (entS D i)) (n := 4) (by kernel_rfl) i (hr i hi)
 rw [flat_one] at ht
 refine st_as rfl (v := .list (rg.map (entS D))) (σ1 := S198 D P rg none) ?_ (by kernel_rfl)
 exact ev_lc (L := lv (m + 9)) (e := l148) rfl (by kernel_rfl) (chk := noChk) (items := rg.map ppV) (by kernel_rfl) (by kernel_rfl) ht (decide_eq_true (by rw [List.length_map]; show _ <= 100000; lia)) (sMp (fun _ => ent_simple _ _) _)
theorem tn_set (hr : ∀ i ∈ rg, i < 4) (hl : rg.length < 100) : exStep (lv (m + 10)) (b198 4) (F198 w) (R198 D P rg 0) = some ((.ret (.list (nones rg.length)), F198 w), R198 D P rg rg.length) := by
 have ht : turns noChk (turn1 (lv (m + 9)) (eG1 l149 0) (cfr l149 (F198 w) (R198 D P rg 0)) (emitL (lv (m + 9)) l149)) (it rg.length) (R198 D P rg 0) = some ((List.range' 0 rg.length).flatMap fun k => [V.none], R198 D P rg rg.length) := by
  refine turns_n (S := R198 D P rg) (w := fun k => [V.none]) fun k hk => ?_
  refine tGo (fr1 := cf1 l149 (F198 w) (R198 D P rg 0) [iv k]) (by kernel_rfl) rfl (mOf ?_)
  have hk4 : rg.getD k 0 < 4 := by
   rw [List.getD_eq_getElem?_getD, List.getElem?_eq_getElem hk]
   exact hr _ (List.getElem_mem hk)
  have h1 : (lv (m + 8)).ev (eAt (eA (eL l149)) 1) (cf1 l149 (F198 w) (R198 D P rg 0) [iv k]) (R198 D P rg k) = some (ppV (rg.getD k 0), R198 D P rg k) :=
   ev_sub (L := lv (m + 7)) (e := eAt (eA (eL l149)) 1) (a := .list (rg.map ppV)) (b := iv k) (σ1 := R198 D P rg k) (σ2 := R198 D P rg k) rfl (by kernel_rfl) (by kernel_rfl) (list_get (pick_map hk))
  have h2 : (lv (m + 8)).ev (eAt (eA (eL l149)) 2) (cf1 l149 (F198 w) (R198 D P rg 0) [iv k]) (R198 D P rg k) = some (entS D (prv rg k), R198 D P rg k) :=
   ev_sub (L := lv (m + 7)) (e := eAt (eA (eL l149)) 2) (a := .list (rg.map (entS D))) (b := .int ((k : Int) - 1)) (σ1 := R198 D P rg k) (σ2 := R198 D P rg k) rfl (by kernel_rfl) (by kernel_rfl) (list_get (pick_prv hk))
  refine ev_call (L := lv (m + 8)) (e := eL l149) (a := .con (.ref 154)) (σ1 := R198 D P rg k) rfl (by kernel_rfl) rfl (evs3 (es := eA (eL l149)) (a := .ref 29) (σ1 := R198 D P rg k) rfl (by kernel_rfl) h1 h2) ((call_set (m := m + 4) (d := shaV (rotN D.sh rg k) (rotN D.ds rg k)) rfl (ent_simple _ _) (by show 4 <= 1000; decide)).trans ?_)
  rw [sha_set _ hk4]; rfl
 rw [nones_flat] at ht
 refine bindR (liftE rfl) (bindR (a := .list (nones rg.length)) (σ1 := R198 D P rg rg.length) ?_ rfl)
 refine ev_lc (L := lv (m + 9)) (e := l149) rfl (by kernel_rfl) (chk := noChk) (items := it rg.length) (it_rngC rfl ?_ (by lia)) (by kernel_rfl) ht (decide_eq_true (by unfold nones; rw [List.length_replicate]; show _ <= 100000; lia)) (nones_simple _)
 have e : (rg.map ppV).length = rg.length := List.length_map ..
 rw [<- e]
 exact ev_call (L := lv (m + 8)) (e := (eG1 l149 0).iter) (a := .con (.type "range")) (σ1 := R198 D P rg 0) rfl (by kernel_rfl) rfl (evs1 (es := eA (eG1 l149 0).iter) rfl (ev_call (L := lv (m + 7)) (e := eAt (eA (eG1 l149 0).iter) 0) (a := .con (.builtin "len")) (σ1 := R198 D P rg 0) (vs := [.list (rg.map ppV)]) (σ2 := R198 D P rg 0) rfl (by kernel_rfl) rfl (by kernel_rfl) (len_call (m := m + 6)))) (rng_call (m := m + 7))
theorem ring_lt : ∀ c, c < 81 -> (∀ i ∈ ringN (hd81 c), i < 4) /\ (ringN (hd81 c)).length < 100 := by decide +kernel
theorem call_turned (hc : c < 81) : (lv (m + 31)).call b (.con (.ref 198)) [.ref 29, wanH (hd81 c) t] D.st = some (.list (nones (ringN (hd81 c)).length), (D.rot (ringN (hd81 c)) (ringN (hd81 c)).length).st) := by
 rw [call_fn (m := m + 30) rfl rfl rfl, tn_path hc]
 obtain ⟨h1, h2⟩ := ring_lt c hc
 refine bindR (xNx (tn_held (m := m + 20) h1 h2) (exL_ret (tn_set (m := m + 19) h1 h2))) (endF (b := 0) ?_ (by kernel_rfl))
 show frz _ _ (V.list _) = _
 exact if_pos (nones_simple _)
end
noncomputable def piR (rg : List Nat) : Nat -> Nat := rotN id rg rg.length
theorem rotN_id {α : Type} (f : Nat -> α) (rg : List Nat) : ∀ k i, rotN f rg k i = f (rotN id rg k i)
 | 0, i => rfl
 | k + 1, i => by
  show (if i = rg.getD k 0 then f (prv rg k) else rotN f rg k i) = f (if i = rg.getD k 0 then id (prv rg k) else rotN id rg k i)
  by_cases h : i = rg.getD k 0
  ·rw [if_pos h, if_pos h]; rfl
  ·rw [if_neg h, if_neg h]; exact rotN_id f rg k i
theorem rot_pi {α : Type} (f : Nat -> α) (rg : List Nat) : rotN f rg rg.length = fun i => f (piR rg i) := funext fun i => rotN_id f rg rg.length i
noncomputable def i4 : List Nat := [0, 1, 2, 3]
theorem mem4 {i : Nat} : i ∈ i4 ↔ i < 4 := by
 unfold i4
 rw [List.mem_cons, List.mem_cons, List.mem_cons, List.mem_singleton]; lia
theorem pi_ok : ∀ c, c < 81 -> (i4.map (piR (ringN (hd81 c)))).Perm i4 /\ (∀ i, i < 4 -> piR (ringN (hd81 c)) i = i ∨ hd81 c (piR (ringN (hd81 c)) i) = i) /\ ∃ i, i < 4 /\ hd81 c (piR (ringN (hd81 c)) i) = i := by decide +kernel
noncomputable def enc (a b c d : Nat) : Nat := (a + 3) % 4 + 3 * ((b + 2) % 4) + 9 * ((c + 1) % 4) + 27 * (d % 4)
noncomputable def encB (a b c d : Nat) : Bool := (a == 0 || (b == 1 || (c == 2 || d == 3))) || (decide (enc a b c d < 81) && (i4.map (hd81 (enc a b c d)) == [a, b, c, d]))
theorem enc_ok : ∀ a, a < 4 -> ∀ b, b < 4 -> ∀ c, c < 4 -> ∀ d, d < 4 -> encB a b c d = true := by decide +kernel
structure Turn (sh : Nat -> Nat -> Int) (π : Nat -> Nat) : Prop where
 perm : (i4.map π).Perm i4
 keep : ∀ i, i < 4 -> sh i i <= sh (π i) i
 gain : ∃ i, i < 4 /\ sh i i < sh (π i) i
noncomputable def unwL (sh : Nat -> Nat -> Int) : List Nat := i4.filter fun i => (wantL sh i).isEmpty
inductive Rots : (Nat -> Nat -> Int) -> (Nat -> List (Str × Int)) -> (Nat -> Nat -> Int) -> (Nat -> List (Str × Int)) -> List (Nat -> Nat -> Int) -> Prop
 | nil (sh : Nat -> Nat -> Int) (ds : Nat -> List (Str × Int)) : Rots sh ds sh ds []
 | cons {sh : Nat -> Nat -> Int} {ds : Nat -> List (Str × Int)} {π : Nat -> Nat} {sh' : Nat -> Nat -> Int} {ds' : Nat -> List (Str × Int)} {os : List (Nat -> Nat -> Int)} : Turn sh π -> (unwL sh).isEmpty = true -> Rots (fun i => sh (π i)) (fun i => ds (π i)) sh' ds' os -> Rots sh ds sh' ds' ((fun i => sh (π i)) :: os)
section
variable {sh : Nat -> Nat -> Int} {π : Nat -> Nat} {c i j : Nat}
theorem Turn.lt (T : Turn sh π) (h : i < 4) : π i < 4 := mem4.mp (T.perm.mem_iff.mp (List.mem_map.mpr ⟨i, mem4.mpr h, rfl⟩))
theorem want_iff : j ∈ wantL sh i ↔ j < 4 /\ sh j j < sh i j := by
 unfold wantL
 rw [List.mem_filter, decide_eq_true_eq]
 exact and_congr_left' mem4
theorem heads (h : (unwL sh).isEmpty = true) : ∃ c t, c < 81 /\ wanV sh = wanH (hd81 c) t /\ Turn sh (piR (ringN (hd81 c))) := by
 have hw : ∀ i, i < 4 -> ∃ j t, wantL sh i = j :: t := fun i hi => by
  cases q : wantL sh i with
  | cons j t => exact ⟨j, t, rfl⟩
  | nil =>
   have := List.filter_eq_nil_iff.mp (List.isEmpty_iff.mp h) i (mem4.mpr hi)
   rw [q] at this
   exact absurd rfl this
 have key : ∀ i, i < 4 -> ∃ j t, wantL sh i = j :: t /\ j < 4 /\ j ≠ i /\ sh j j < sh i j := fun i hi => by
  obtain ⟨j, t, e⟩ := hw i hi
  obtain ⟨h1, h2⟩ := want_iff.mp (show j ∈ wantL sh i by rw [e]; exact .head _)
  exact ⟨j, t, e, h1, fun e => by rw [e] at h2; exact Int.lt_irrefl _ h2, h2⟩
 refine hd fun P0 q0 => ?_
 obtain ⟨a, ta, ea, la, na, wa⟩ := key 0 (by decide)
 obtain ⟨b, tb, eb, lb, nb, wb⟩ := key 1 (by decide)
 obtain ⟨c, tc, ec, lc, nc, wc⟩ := key 2 (by decide)
 obtain ⟨d, td, ed, ld, nd, wd⟩ := key 3 (by decide)
 have h := enc_ok a la b lb c lc d ld
 rw [encB, beq_false_of_ne na, beq_false_of_ne nb, beq_false_of_ne nc, beq_false_of_ne nd, Bool.false_or, Bool.false_or, Bool.false_or, Bool.false_or, Bool.and_eq_true, beq_iff_eq] at h
 obtain ⟨h1, h2⟩ := h
 refine q0 ?_
 have h1 := of_decide_eq_true h1
 generalize enc a b c d = k at *
 refine hd fun P0 q0 => ?_
 obtain ⟨e0, h2⟩ := List.cons.inj h2
 obtain ⟨e1, h2⟩ := List.cons.inj h2
 obtain ⟨e2, h2⟩ := List.cons.inj h2
 obtain ⟨e3, -⟩ := List.cons.inj h2
 have hg : ∀ i, i < 4 -> sh (hd81 k i) (hd81 k i) < sh i (hd81 k i) := fun i hi => by
  obtain rfl | rfl | rfl | rfl : i = 0 ∨ i = 1 ∨ i = 2 ∨ i = 3 := by lia
  ·rw [e0]; exact wa
  ·rw [e1]; exact wb
  ·rw [e2]; exact wc
  ·rw [e3]; exact wd
 obtain ⟨p1, p2, i, p3, p4⟩ := pi_ok k h1
 refine q0 ?_
 have T : ∀ i, i < 4 -> piR (ringN (hd81 k)) i < 4 := fun i hi => mem4.mp (p1.mem_iff.mp (List.mem_map.mpr ⟨i, mem4.mpr hi, rfl⟩))
 have g : ∀ i, i < 4 -> hd81 k (piR (ringN (hd81 k)) i) = i -> sh i i < sh (piR (ringN (hd81 k)) i) i := fun i hi e => by
  have := hg _ (T i hi)
  rw [e] at this; exact this
 refine ⟨k, fun i => [ta.map ppV, tb.map ppV, tc.map ppV, td.map ppV].getD i [], h1, ?_, p1, fun i hi => ?_, i, p3, g i p3 p4⟩
 ·show V.dict [(pp 0, wanN sh 0), (pp 1, wanN sh 1), (pp 2, wanN sh 2), (pp 3, wanN sh 3)] = V.dict [(pp 0, .list (ppV (hd81 k 0) :: ta.map ppV)), (pp 1, .list (ppV (hd81 k 1) :: tb.map ppV)), (pp 2, .list (ppV (hd81 k 2) :: tc.map ppV)), (pp 3, .list (ppV (hd81 k 3) :: td.map ppV))]
  unfold wanN strL
  rw [ea, eb, ec, ed, e0, e1, e2, e3, List.map_map, List.map_map, List.map_map, List.map_map]; rfl
 ·rcases p2 i hi with e | e
  ·rw [e]; exact Int.le_refl _
  ·exact Int.le_of_lt (g i hi e)
noncomputable def cnt (sh : Nat -> Nat -> Int) (o : Nat) : Nat := i4.countP fun j => decide (sh o o < sh j o)
noncomputable def envN (sh : Nat -> Nat -> Int) : Nat := cnt sh 0 + cnt sh 1 + cnt sh 2 + cnt sh 3
theorem countP_lt_of {α : Type} {P Q : α -> Bool} {x : α} : ∀ {l : List α}, (∀ b ∈ l, P b = true -> Q b = true) -> x ∈ l -> Q x = true -> P x = false -> l.countP P < l.countP Q
 | a :: l, h, hx, hq, hp => by
  rw [List.countP_cons, List.countP_cons]
  rcases List.mem_cons.mp hx with e | hx
  ·subst e
   have ih : l.countP P <= l.countP Q := List.countP_mono_left fun b hb => h b (.tail _ hb)
   rw [if_pos hq, if_neg (by rw [hp]; decide)]; lia
  ·have ih := countP_lt_of (l := l) (fun b hb => h b (.tail _ hb)) hx hq hp
   by_cases hpa : P a = true
   ·rw [if_pos hpa, if_pos (h a (.head _) hpa)]; lia
   ·rw [if_neg hpa]; lia
theorem cnt_rot (T : Turn sh π) (o : Nat) : cnt (fun i => sh (π i)) o = i4.countP fun b => decide (sh (π o) o < sh b o) := by
 have := T.perm.countP_eq fun b => decide (sh (π o) o < sh b o)
 rw [List.countP_map] at this
 exact this
theorem cnt_le (T : Turn sh π) {o : Nat} (ho : o < 4) : cnt (fun i => sh (π i)) o <= cnt sh o := by
 rw [cnt_rot T]
 exact List.countP_mono_left fun b _ h => decide_eq_true (Int.lt_of_le_of_lt (T.keep o ho) (of_decide_eq_true h))
theorem cnt_lt (T : Turn sh π) {o : Nat} (ho : o < 4) (hg : sh o o < sh (π o) o) : cnt (fun i => sh (π i)) o < cnt sh o := by
 rw [cnt_rot T]
 exact countP_lt_of (x := π o) (fun b _ h => decide_eq_true (Int.lt_of_le_of_lt (T.keep o ho) (of_decide_eq_true h))) (mem4.mpr (T.lt ho)) (decide_eq_true hg) (decide_eq_false (Int.lt_irrefl _))
theorem env_dec (T : Turn sh π) : envN (fun i => sh (π i)) < envN sh := by
 unfold envN
 have h0 := cnt_le T (o := 0) (by decide)
 have h1 := cnt_le T (o := 1) (by decide)
 have h2 := cnt_le T (o := 2) (by decide)
 have h3 := cnt_le T (o := 3) (by decide)
 refine hd fun P0 q0 => ?_
 obtain ⟨o, ho, hg⟩ := T.gain
 have := cnt_lt T ho hg
 obtain rfl | rfl | rfl | rfl : o = 0 ∨ o = 1 ∨ o = 2 ∨ o = 3 := by lia
 refine q0 ?_
 all_goals lia
theorem env_le : envN sh <= 16 := Nat.add_le_add (Nat.add_le_add (Nat.add_le_add (List.countP_le_length (l := i4)) (List.countP_le_length (l := i4))) (List.countP_le_length (l := i4))) (List.countP_le_length (l := i4))
end
theorem cmp_nil {l : List V} {σ : List O} : cmp .Eq (.list l) (.list []) σ = some (l.isEmpty, σ) := by cases l <;> rfl
theorem nones_app (a b : Nat) : nones a ++ nones b = nones (a + b) := List.replicate_append_replicate
theorem nones_len (a : Nat) : (nones a).length = a := List.length_replicate
theorem o_ext {σ : List O} {N b k n : Nat} (h : σ[N]? = some (.list (nones k))) (hl : k + n <= 100000) : callBm b "list.extend" (.ref N) [.list (nones n)] σ = some (.none, σ.set N (.list (nones (k + n)))) := by
 have hN : N < σ.length := (List.getElem?_eq_some_iff.mp h).1
 refine bindR (a := N) (σ1 := σ) rfl (bindR (a := V.list (nones n)) (σ1 := σ) rfl (bindR (a := nones n) (σ1 := σ) rfl (bindR (a := nones k) (σ1 := σ) (bindR (a := .list (nones k)) (σ1 := σ) ?_ rfl) (bindR (guardE ?_) (bindR (guardE (decide_eq_true ?_)) ?_)))))
 ·show (σ[N]?).map _ = _
  rw [h]; rfl
 ·show (_ || V.simples (nones n)) = true
  rw [nones_simple, Bool.or_true]
 ·rw [nones_len, nones_len]; exact hl
 ·show (if N < σ.length then _ else _) = _
  rw [if_pos hN, nones_app]
noncomputable def ownV (sh : Nat -> Nat -> Int) : V := .list [.int (sh 0 0), .int (sh 1 1), .int (sh 2 2), .int (sh 3 3)]
noncomputable def b203 (i : Nat) : Stmt := stL (fiOf 203).body i
noncomputable def q203 (i : Nat) : Stmt := stL (sA (b203 4)) i
noncomputable def w203 (i : Nat) : Stmt := stL (sA (q203 2)) i
noncomputable def F203 (Wd : List (Str × V)) (one turn step : Option V) : Fr := frA 203 [some (.inst 101 22), some tasV, some (.dict Wd), one, some (.ref 37), some (.ref 38), some (.ref 39), some (.ref 40), turn, step] [("wants", 36), ("shares", 35), ("people", 34)] 34
section
variable {m k n : Nat} {D : DS} {Wd : List (Str × V)} {one turn step : Option V} {v x : V} {st : Stmt}
theorem s_wants (hs : st = q203 0 ∨ st = w203 1) : exStep (lv (m + 28)) st (F203 Wd one turn step) D.st = some ((.next, F203 Wd one turn step), { D with w := some (wanV D.sh) }.st) := by
 have key : ∀ st, isAsg st = true -> isCallE (sE st) = true -> isCompE (sE st) = false -> (lv (m + 27)).ev (eL (sE st)) (F203 Wd one turn step) D.st = some (.con (.ref 193), D.st) -> evs (lv (m + 27)) (eA (sE st)) (F203 Wd one turn step) D.st = some ([.ref 29, tasV], D.st) -> (asg (lv (m + 28)) (sT st) (wanV D.sh) (F203 Wd one turn step) >>= fun fr' => pure (Fl.next, fr')) D.st = some ((.next, F203 Wd one turn step), { D with w := some (wanV D.sh) }.st) -> exStep (lv (m + 28)) st (F203 Wd one turn step) D.st = some ((.next, F203 Wd one turn step), { D with w := some (wanV D.sh) }.st) := fun st h1 h2 h0 h3 h4 h5 => by
  refine st_as h1 (v := wanV D.sh) (σ1 := D.st) ?_ h5
  unfold evA
  rw [h0]
  exact ev_call (L := lv (m + 27)) (e := sE st) h2 h3 rfl h4 (call_wants (m := m + 1))
 rcases hs with rfl | rfl
 ·exact key _ rfl rfl rfl (by kernel_rfl) (by kernel_rfl) (by kernel_rfl)
 ·exact key _ rfl rfl rfl (by kernel_rfl) (by kernel_rfl) (by kernel_rfl)
theorem s_own (hs : st = q203 1 ∨ st = w203 2) (hl : D.ow.length < 100000) : exStep (lv (m + 20)) st (F203 Wd one turn step) D.st = some ((.next, F203 Wd one turn step), { D with ow := D.ow ++ [ownV D.sh] }.st) := by
 have key : ∀ st, isExp st = true -> isMethE (sE st) = true -> (lv (m + 19)).ev (eL (eL (sE st))) (F203 Wd one turn step) D.st = some (.ref 40, D.st) -> methTag (.ref 40) (eX (eL (sE st))) D.st = some (.bi "list.append", D.st) -> evs (lv (m + 19)) (eA (sE st)) (F203 Wd one turn step) D.st = some ([ownV D.sh], D.st) -> exStep (lv (m + 20)) st (F203 Wd one turn step) D.st = some ((.next, F203 Wd one turn step), { D with ow := D.ow ++ [ownV D.sh] }.st) := fun st h1 h2 h3 h4 h5 =>
  st_expr h1 (ev_meth (L := lv (m + 19)) (e := sE st) h2 h3 h4 h5 (o_app (N := 40) (l := D.ow) rfl rfl hl))
 rcases hs with rfl | rfl
 ·exact key _ rfl rfl (by kernel_rfl) (by kernel_rfl) (by kernel_rfl)
 ·exact key _ rfl rfl (by kernel_rfl) (by kernel_rfl) (by kernel_rfl)
noncomputable def wst (D : DS) : DS := { D with w := some (wanV D.sh) }
noncomputable def t158 : Expr := sT (q203 2)
noncomputable def l158 : Expr := eL t158
theorem w_test : (lv (m + 20)).tr t158 (F203 Wd one turn step) (wst D).st = some ((unwL D.sh).isEmpty, (wst D).st) := by
 have ht := tPu (chk := noChk) (σ := (wst D).st) (f := turn1 (lv (m + 18)) (eG1 l158 0) (cfr l158 (F203 Wd one turn step) (wst D).st) (emitL (lv (m + 18)) l158)) (t := ppV) (w := fun i => if (wantL D.sh i).isEmpty then [ppV i] else []) (vs := i4) rfl fun i hi => by
  have hi := mem4.mp hi
  refine turn_if (fr1 := cf1 l158 (F203 Wd one turn step) (wst D).st [ppV i]) (by kernel_rfl) ?_ (by kernel_rfl)
  refine Eq.trans (b := tests (lv (m + 18)) [eAt (eG1 l158 0).ifs 0] (cf1 l158 (F203 Wd one turn step) (wst D).st [ppV i]) (wst D).st) (by kernel_rfl) (tests_one ?_)
  have e : (wantL D.sh i).isEmpty = (strL ((wantL D.sh i).map pp)).isEmpty := by cases wantL D.sh i <;> rfl
  rw [e]
  exact tr_cmp (L := lv (m + 17)) (e := eAt (eG1 l158 0).ifs 0) rfl (en (f := fun i => (lv (m + 17)).ev (eL (eAt (eG1 l158 0).ifs 0)) (cf1 l158 (F203 Wd one turn step) (wst D).st [ppV i]) (wst D).st) (g := fun i => some (wanN D.sh i, (wst D).st)) (n := 4) (by kernel_rfl) i hi) (b := .list []) (σ2 := (wst D).st) (by kernel_rfl) cmp_nil
 rw [filt_one] at ht
 have h1 : (lv (m + 19)).ev l158 (F203 Wd one turn step) (wst D).st = some (.list ((unwL D.sh).map ppV), (wst D).st) :=
  ev_lc (L := lv (m + 18)) (e := l158) rfl (by kernel_rfl) (chk := noChk) (items := i4.map ppV) (by kernel_rfl) (by kernel_rfl) ht (decide_eq_true (by
   rw [List.length_map]
   exact Nat.le_trans (List.length_filter_le ..) (by decide))) (sMp (fun _ => rfl) _)
 have e : (unwL D.sh).isEmpty = ((unwL D.sh).map ppV).isEmpty := by cases unwL D.sh <;> rfl
 rw [e]
 exact tr_cmp (L := lv (m + 19)) (e := t158) rfl h1 (b := .list []) (σ2 := (wst D).st) (by kernel_rfl) cmp_nil
theorem rot_st {c : Nat} {rg : List Nat} : (D.rot rg rg.length) = { D with sh := fun i => D.sh (piR rg i), ds := fun i => D.ds (piR rg i) } := by
 unfold DS.rot
 rw [rot_pi, rot_pi]
noncomputable def DS.setW (D : DS) (v : V) : DS := { D with w := some v }
noncomputable def DS.go (D : DS) (π : Nat -> Nat) : DS := { D with sh := fun i => D.sh (π i), ds := fun i => D.ds (π i) }
noncomputable def DS.setM (D : DS) (k : Nat) : DS := { D with mu := nones k }
theorem s_turn (hu : (unwL D.sh).isEmpty = true) (hk : k < 90000) : ∃ π j, Turn D.sh π /\ j < 100 /\ exStep (lv (m + 33)) (w203 0) (F203 Wd one turn step) ((wst D).setM k).st = some ((.next, F203 Wd one turn step), (((wst D).setM (k + j)).go π).st) := by
 refine hd fun P0 q0 => ?_
 obtain ⟨c, t, hc, e, T⟩ := heads hu
 refine q0 ?_
 refine ⟨_, (ringN (hd81 c)).length, T, (ring_lt c hc).2, ?_⟩
 show exStep (lv (m + 33)) (w203 0) (F203 Wd one turn step) ((D.setW (wanV D.sh)).setM k).st = some ((.next, F203 Wd one turn step), (((D.setW (wanV D.sh)).setM (k + (ringN (hd81 c)).length)).go _).st)
 rw [e]
 have h1 : (lv (m + 32)).ev (eAt (eA (sE (w203 0))) 0) (F203 Wd one turn step) ((D.setW (wanH (hd81 c) t)).setM k).st = some (.list (nones (ringN (hd81 c)).length), (((D.setW (wanH (hd81 c) t)).setM k).go (piR (ringN (hd81 c)))).st) := by
  have h := call_turned (m := m) (b := 34) (D := (D.setW (wanH (hd81 c) t)).setM k) (c := c) (t := t) hc
  rw [rot_st (c := c)] at h
  exact ev_call (L := lv (m + 31)) (e := eAt (eA (sE (w203 0))) 0) (a := .con (.ref 198)) (σ1 := ((D.setW (wanH (hd81 c) t)).setM k).st) rfl (by kernel_rfl) rfl (by kernel_rfl) h
 exact st_expr rfl (ev_meth (L := lv (m + 32)) (e := sE (w203 0)) (a := .ref 37) (σ1 := ((D.setW (wanH (hd81 c) t)).setM k).st) rfl (by kernel_rfl) (t := .bi "list.extend") (by kernel_rfl) (evs1 rfl h1) (o_ext (N := 37) (k := k) rfl (by have := (ring_lt c hc).2; lia)))
end
noncomputable def DS.setO (D : DS) (l : List V) : DS := { D with ow := l }
noncomputable def DS.setA (D : DS) (l : List V) : DS := { D with pa := l }
noncomputable def DS.setB (D : DS) (l : List V) : DS := { D with pb := l }
noncomputable def DS.setT (D : DS) (l : List V) : DS := { D with tk := l }
noncomputable def DS.setH (D : DS) (l : List V) : DS := { D with th := l }
noncomputable def DS.setS (D : DS) (sh : Nat -> Nat -> Int) (ds : Nat -> List (Str × Int)) : DS := { D with sh := sh, ds := ds }
theorem look_at {σ : List O} {p : Nat} {o : O} (h : σ[p]? = some o) : look p σ = some (o, σ) := by
 show (σ[p]?).map _ = _
 rw [h]; rfl
theorem set_take {σ : List O} {p : Nat} {o : O} : (σ.set p o).take σ.length = σ.set p o := by
 rw [show σ.length = (σ.set p o).length from (List.length_set ..).symm, List.take_length]
theorem call_push {m b k p : Nat} {σ : List O} {ln : Int} {c : Nat} {l : List V} {x : Str} (hk : σ[k]? = some (lexO ln c p)) (hp : σ[p]? = some (.list l)) (hl : l.length < 100000) : (lv (m + 6)).call b (.con (.ref 98)) [.inst 101 k, .str x] σ = some (.none, σ.set p (.list (l ++ [.str x]))) := by
 rw [call_fn (m := m + 5) rfl rfl rfl]
 refine Eq.trans (b := (exL (lv (m + 4)) [stL (fiOf 98).body 0] (frA 98 [some (.inst 101 k), some (.str x)] [] σ.length) >>= fun r => endFn false σ (flV r.1)) σ) (by kernel_rfl) ?_
 refine bindR (xNx (st_expr rfl (ev_meth (L := lv (m + 3)) (e := sE (stL (fiOf 98).body 0)) (a := .ref p) (σ1 := σ) (σ2 := σ) (vs := [.str x]) (t := .bi "list.append") rfl ?_ ?_ (by kernel_rfl) (o_app hp (Bool.or_true _) hl))) exL_nil) (endF (b := 0) rfl set_take)
 ·exact Eq.trans (b := getAtt (.inst 101 k) (attS "pushback") σ) (by kernel_rfl) (getAtt_at hk rfl rfl)
 ·exact bindR (look_at hp) rfl
section
variable {m k n a : Nat} {D : DS} {Wd : List (Str × V)} {one turn step : Option V} {v : V} {st : Stmt} {x : Str} {l tk : List V}
theorem mono_st : exStep (lv (m + 34)) (q203 2) (F203 Wd one turn step) = whileV (lv (m + 34)) t158 [w203 0, w203 1, w203 2] 1000 (F203 Wd one turn step) := by kernel_rfl
noncomputable def W203 (m : Nat) (Wd : List (Str × V)) (one turn step : Option V) (n : Nat) (D : DS) (k : Nat) : Prop :=
 ∀ {P : Prop}, (∀ sh ds os k', Rots D.sh D.ds sh ds os -> (unwL sh).isEmpty = false -> os.length + envN sh <= envN D.sh -> k' <= k + 100 * os.length ->
  (∀ r, whileV (lv (m + 34)) t158 [w203 0, w203 1, w203 2] (n + 1 + r) (F203 Wd one turn step) ((wst D).setM k).st = some ((.next, F203 Wd one turn step), ((wst ((D.setS sh ds).setO (D.ow ++ os.map ownV))).setM k').st)) -> P) -> P
theorem w_goW (n : Nat) (D : DS) (k : Nat) (h : (unwL D.sh).isEmpty = false) : W203 m Wd one turn step n D k := by
 refine fun t => t D.sh D.ds [] k (.nil _ _) h (Nat.le_of_eq (Nat.zero_add _)) (Nat.le_add_right _ _) fun r => ?_
 have ht := w_test (m := m + 14) (D := D.setM k) (Wd := Wd) (one := one) (turn := turn) (step := step)
 rw [show (unwL (D.setM k).sh).isEmpty = false from h] at ht
 rw [show n + 1 + r = (n + r) + 1 by lia, List.map_nil, List.append_nil]
 exact bindR ht rfl
theorem w_loop : ∀ (n : Nat) (D : DS) (k : Nat), envN D.sh <= n -> k + 100 * n < 90000 -> D.ow.length + n < 90000 -> W203 m Wd one turn step n D k := by
 intro n
 induction n with
 | zero =>
  intro D k he hk ho
  cases h : (unwL D.sh).isEmpty with
  | false => exact w_goW 0 D k h
  | true =>
   obtain ⟨π, j, T, -, -⟩ := s_turn (m := 0) (Wd := Wd) (one := one) (turn := turn) (step := step) h (k := k) (by lia)
   have := env_dec T
   lia
 | succ n ih =>
  intro D k he hk ho
  cases h : (unwL D.sh).isEmpty with
  | false => exact w_goW _ D k h
  | true =>
   intro P kk
   obtain ⟨π, j, T, hj, e1⟩ := s_turn (m := m) (Wd := Wd) (one := one) (turn := turn) (step := step) h (k := k) (by lia)
   have hd := env_dec T
   have e2 := s_wants (m := m + 5) (Wd := Wd) (one := one) (turn := turn) (step := step) (D := ((wst D).setM (k + j)).go π) (.inr rfl)
   have e3 := s_own (m := m + 13) (Wd := Wd) (one := one) (turn := turn) (step := step) (D := (wst (D.go π)).setM (k + j)) (.inr rfl) (by show D.ow.length < 100000; lia)
   refine ih ((D.go π).setO (D.ow ++ [ownV (D.go π).sh])) (k + j) (by show envN _ <= n; exact Nat.le_of_lt_succ (Nat.lt_of_lt_of_le hd he)) (by lia) (by show (D.ow ++ [_]).length + n < 90000; rw [List.length_append]; show _ + 1 + n < _; lia) fun sh ds os k' R hu h1 h2 hw => ?_
   refine kk sh ds ((D.go π).sh :: os) k' (.cons T h R) hu ?_ ?_ fun r => ?_
   ·have h1 : os.length + envN sh <= envN (D.go π).sh := h1
    have : envN (D.go π).sh < envN D.sh := hd
    rw [List.length_cons]; lia
   ·rw [List.length_cons]; lia
   ·have ht := w_test (m := m + 14) (D := D.setM k) (Wd := Wd) (one := one) (turn := turn) (step := step)
    rw [show (unwL (D.setM k).sh).isEmpty = true from h] at ht
    rw [show n + 1 + 1 + r = (n + 1 + r) + 1 by lia]
    refine bindR ht (bindR (xNx e1 (xNx e2 (xNx e3 exL_nil))) ?_)
    have hw := hw r
    have ea : (D.ow ++ [ownV (D.go π).sh]) ++ os.map ownV = D.ow ++ ((D.go π).sh :: os).map ownV := by rw [List.append_assoc]; rfl
    rw [<- ea]
    exact hw
end
noncomputable def tkS : Option Nat -> Str
 | none => Str.empty
 | some i => pp i
theorem list_last {σ : List O} {N : Nat} {l : List V} {v : V} (h : σ[N]? = some (.list (l ++ [v]))) : getItem (.ref N) (.int (-1)) σ = some (v, σ) :=
 bindR (a := l ++ [v]) (σ1 := σ) (bindR (look_at h) rfl) (liftE pick_last)
theorem list_setl {σ : List O} {N b : Nat} {l : List V} {v u : V} (h : σ[N]? = some (.list (l ++ [v]))) (hb : (decide (b <= N) || u.simple) = true) : setItem b (.ref N) (.int (-1)) u σ = some ((), σ.set N (.list (l ++ [u]))) := by
 have hN : N < σ.length := (List.getElem?_eq_some_iff.mp h).1
 have hi : idx (l ++ [v]).length (-1) = some l.length := by
  unfold idx
  rw [List.length_append]
  rw [if_neg (by decide), if_pos (by show 0 <= -1 + ((l.length + 1 : Nat) : Int); lia)]
  exact congrArg some (by show (-1 + ((l.length + 1 : Nat) : Int)).toNat = _; lia)
 refine bindR (a := N) (σ1 := σ) rfl (bindR (a := l ++ [v]) (σ1 := σ) (bindR (look_at h) rfl) (bindR (guardE hb) (bindR (guardE rfl) (bindR (liftE hi) ?_))))
 show (if N < σ.length then _ else _) = _
 rw [if_pos hN]
 have : (l ++ [v]).set l.length u = l ++ [u] := by rw [List.set_append, if_neg (Nat.lt_irrefl _), Nat.sub_self]; rfl
 rw [this]
noncomputable def isAnd2 (e : Expr) : Bool := e.ctorIdx == 0 && (eKw e && (two (eA e)).isSome)
theorem tr_and {L : Lv} {e : Expr} {fr : Fr} {σ : List O} {c d : Bool} (h : isAnd2 e = true) (h1 : L.tr (eAt (eA e) 0) fr σ = some (c, σ)) (h2 : c = true -> L.tr (eAt (eA e) 1) fr σ = some (d, σ)) : trStep L e fr σ = some (c && d, σ) := by
 obtain ⟨g, h⟩ := and_of h
 obtain ⟨o, es, p, rfl⟩ := bool_of g
 obtain ⟨g1, g2⟩ := and_of h
 obtain ⟨a, b, e⟩ := two_ex g2
 have e : es = [a, b] := e
 subst e
 have g1 : o = .And := eq_of_beq g1
 subst g1
 refine bindR h1 ?_
 cases c with
 | false => rfl
 | true => exact bindR (h2 rfl) (by cases d <;> rfl)
theorem st_ifT {L : Lv} {st : Stmt} {fr : Fr} {σ σ1 : List O} {q : Option ((Fl × Fr) × List O)} (h : isIf st = true) (h1 : L.tr (sT st) fr σ = some (true, σ1)) (h2 : L.exs (sA st) fr σ1 = q) : exStep L st fr σ = q := st_if h h1 (by rw [if_pos rfl]; exact h2)
theorem st_ifF {L : Lv} {st : Stmt} {fr : Fr} {σ σ1 : List O} {q : Option ((Fl × Fr) × List O)} (h : isIf st = true) (h1 : L.tr (sT st) fr σ = some (false, σ1)) (h2 : L.exs (sB st) fr σ1 = q) : exStep L st fr σ = q := st_if h h1 (by rw [if_neg Bool.false_ne_true]; exact h2)
noncomputable def s203 : Stmt := q203 5
noncomputable def r203 (i : Nat) : Stmt := stL (sA s203) i
section
variable {m k n a u : Nat} {D : DS} {Wd : List (Str × V)} {one turn step : Option V} {v : V} {st : Stmt} {x : Str} {l tk th : List V} {r : List Nat} {t : Option Nat}
theorem s_take (hl : D.th.length < 100000) : exStep (lv (m + 30)) (q203 3) (F203 Wd one turn step) (D.setA (.str x :: l)).st = some ((.next, F203 Wd one turn step), ((D.setA l).setH (D.th ++ [.str x])).st) :=
 st_expr rfl (ev_meth (L := lv (m + 29)) (e := sE (q203 3)) (a := .ref 39) (σ1 := (D.setA (.str x :: l)).st) (σ2 := (D.setA l).st) (vs := [.str x]) (t := .bi "list.append") rfl (by kernel_rfl) (by kernel_rfl) (by kernel_rfl) (o_app (N := 39) (l := D.th) rfl rfl hl))
theorem s_none (hl : D.tk.length < 100000) : exStep (lv (m + 20)) (q203 4) (F203 Wd one turn step) D.st = some ((.next, F203 Wd one turn step), (D.setT (D.tk ++ [.str Str.empty])).st) :=
 st_expr rfl (ev_meth (L := lv (m + 19)) (e := sE (q203 4)) (a := .ref 38) (σ1 := D.st) (σ2 := D.st) (vs := [.str Str.empty]) (t := .bi "list.append") rfl (by kernel_rfl) (by kernel_rfl) (by kernel_rfl) (o_app (N := 38) (l := D.tk) rfl rfl hl))
theorem s_push (hs : st = stL (sB (r203 1)) 0 ∨ st = q203 6) (hx : (lv (m + 18)).ev (eAt (eA (eAt (eA (sE st)) 0)) 0) (F203 Wd one turn step) ((D.setB l).setM k).st = some (.str x, ((D.setB l).setM k).st)) (hl : l.length < 100000) (hk : k < 100000) :
  exStep (lv (m + 20)) st (F203 Wd one turn step) ((D.setB l).setM k).st = some ((.next, F203 Wd one turn step), ((D.setB (l ++ [.str x])).setM (k + 1)).st) := by
 have key : ∀ st, isExp st = true -> isMethE (sE st) = true -> plainN (eA (sE st)) 1 = true -> isMethE (eAt (eA (sE st)) 0) = true -> plainN (eA (eAt (eA (sE st)) 0)) 1 = true ->
   (lv (m + 19)).ev (eL (eL (sE st))) (F203 Wd one turn step) ((D.setB l).setM k).st = some (.ref 37, ((D.setB l).setM k).st) -> methTag (.ref 37) (eX (eL (sE st))) ((D.setB l).setM k).st = some (.bi "list.append", ((D.setB l).setM k).st) ->
   (lv (m + 18)).ev (eL (eL (eAt (eA (sE st)) 0))) (F203 Wd one turn step) ((D.setB l).setM k).st = some (.inst 101 27, ((D.setB l).setM k).st) -> methTag (.inst 101 27) (eX (eL (eAt (eA (sE st)) 0))) ((D.setB l).setM k).st = some (.fn 98, ((D.setB l).setM k).st) ->
   (lv (m + 18)).ev (eAt (eA (eAt (eA (sE st)) 0)) 0) (F203 Wd one turn step) ((D.setB l).setM k).st = some (.str x, ((D.setB l).setM k).st) ->
   exStep (lv (m + 20)) st (F203 Wd one turn step) ((D.setB l).setM k).st = some ((.next, F203 Wd one turn step), ((D.setB (l ++ [.str x])).setM (k + 1)).st) := fun st h1 h2 h3 h4 h5 h6 h7 h8 h9 hx => by
  have g := ev_meth (L := lv (m + 18)) (e := eAt (eA (sE st)) 0) h4 h8 h9 (evs1 h5 hx) (call_push (m := m + 12) (k := 27) (p := 28) (l := l) rfl rfl hl)
  refine st_expr (v := .none) h1 (ev_meth (L := lv (m + 19)) (e := sE st) h2 h6 h7 (evs1 h3 g) ((o_app (N := 37) (l := nones k) rfl rfl (by rw [nones_len]; exact hk)).trans ?_))
  have : nones k ++ [.none] = nones (k + 1) := nones_app k 1
  rw [this]; rfl
 rcases hs with rfl | rfl
 ·exact key _ rfl rfl rfl rfl rfl (by kernel_rfl) (by kernel_rfl) (by kernel_rfl) (by kernel_rfl) hx
 ·exact key _ rfl rfl rfl rfl rfl (by kernel_rfl) (by kernel_rfl) (by kernel_rfl) (by kernel_rfl) hx
noncomputable def stp (sh : Nat -> Nat -> Int) : List Nat × Option Nat -> List Nat × Option Nat
 | (o :: r, none) => if (wantL sh o).isEmpty then (r, some o) else (r ++ [o], none)
 | (o :: r, some t) => (r ++ [o], some t)
 | ([], t) => ([], t)
noncomputable def asS (D : DS) (k : Nat) (q : List Nat × Option Nat) : DS := (((wst D).setB (q.1.map ppV)).setT (D.tk ++ [.str (tkS q.2)])).setM k
noncomputable def tk_ok (t : Option Nat) : Prop := ∀ i, t = some i -> i < 4
theorem tk_empty (ht : tk_ok t) : decide (tkS t = Str.empty) = t.isNone := by
 cases t with
 | none => rfl
 | some i => exact en (f := fun i => decide (pp i = Str.empty)) (g := fun _ => false) (n := 4) (by kernel_rfl) i (ht i rfl)
theorem askN (ha : a < 4) (ht : tk_ok t) (hr : r.length < 90000) (hk : k < 90000) : ∃ k', k' <= k + 1 /\ turnS (lv (m + 24)) (sT s203) (sA s203) v (F203 Wd one turn step) (asS D k (a :: r, t)).st = some ((.next, F203 Wd (some (ppV a)) turn (some v)), (asS D k' (stp D.sh (a :: r, t))).st) := by
 have h0 : asg (lv (m + 24)) (sT s203) v (F203 Wd one turn step) (asS D k (a :: r, t)).st = some (F203 Wd one turn (some v), (asS D k (a :: r, t)).st) := by kernel_rfl
 have h1 := en (f := fun a => exStep (lv (m + 23)) (r203 0) (F203 Wd one turn (some v)) (asS D k (a :: r, t)).st) (g := fun a => some ((.next, F203 Wd (some (ppV a)) turn (some v)), (asS D k (r, t)).st)) (n := 4) (by kernel_rfl) a ha
 have c1 : (lv (m + 22)).tr (eAt (eA (sT (r203 1))) 0) (F203 Wd (some (ppV a)) turn (some v)) (asS D k (r, t)).st = some (t.isNone, (asS D k (r, t)).st) := by
  refine tr_cmp (L := lv (m + 21)) (e := eAt (eA (sT (r203 1))) 0) rfl (ev_sub (L := lv (m + 20)) (e := eL (eAt (eA (sT (r203 1))) 0)) (a := .ref 38) (σ1 := (asS D k (r, t)).st) rfl (by kernel_rfl) (b := .int (-1)) (σ2 := (asS D k (r, t)).st) (by kernel_rfl) (list_last (l := D.tk) (v := .str (tkS t)) rfl)) (b := .str Str.empty) (σ2 := (asS D k (r, t)).st) (by kernel_rfl) ?_
  rw [<- tk_empty ht]; rfl
 have c2 : (lv (m + 22)).tr (eAt (eA (sT (r203 1))) 1) (F203 Wd (some (ppV a)) turn (some v)) (asS D k (r, t)).st = some ((wantL D.sh a).isEmpty, (asS D k (r, t)).st) := by
  have e : (wantL D.sh a).isEmpty = (strL ((wantL D.sh a).map pp)).isEmpty := by cases wantL D.sh a <;> rfl
  rw [e]
  exact tr_cmp (L := lv (m + 21)) (e := eAt (eA (sT (r203 1))) 1) rfl (en (f := fun a => (lv (m + 21)).ev (eL (eAt (eA (sT (r203 1))) 1)) (F203 Wd (some (ppV a)) turn (some v)) (asS D k (r, t)).st) (g := fun a => some (wanN D.sh a, (asS D k (r, t)).st)) (n := 4) (by kernel_rfl) a ha) (b := .list []) (σ2 := (asS D k (r, t)).st) (by kernel_rfl) cmp_nil
 have ht := tr_and (L := lv (m + 22)) (e := sT (r203 1)) rfl c1 fun _ => c2
 have push : ∃ k', k' <= k + 1 /\ (lv (m + 23)).exs (sB (r203 1)) (F203 Wd (some (ppV a)) turn (some v)) (asS D k (r, t)).st = some ((.next, F203 Wd (some (ppV a)) turn (some v)), (asS D k' (r ++ [a], t)).st) := by
  refine ⟨k + 1, Nat.le_refl _, Eq.trans (b := exL (lv (m + 22)) [stL (sB (r203 1)) 0] (F203 Wd (some (ppV a)) turn (some v)) (asS D k (r, t)).st) (by kernel_rfl) (xNx ?_ exL_nil)⟩
  have := s_push (m := m + 2) (Wd := Wd) (one := some (ppV a)) (turn := turn) (step := some v) (st := stL (sB (r203 1)) 0) (D := asS D k (r, t)) (k := k) (l := r.map ppV) (x := pp a) (.inl rfl) (by kernel_rfl) (by rw [List.length_map]; lia) (by lia)
  have e : (r ++ [a]).map ppV = r.map ppV ++ [.str (pp a)] := List.map_append
  unfold asS
  rw [e]
  exact this
 have fin : ∀ {k' q}, exStep (lv (m + 23)) (r203 1) (F203 Wd (some (ppV a)) turn (some v)) (asS D k (r, t)).st = some ((.next, F203 Wd (some (ppV a)) turn (some v)), (asS D k' q).st) -> turnS (lv (m + 24)) (sT s203) (sA s203) v (F203 Wd one turn step) (asS D k (a :: r, t)).st = some ((.next, F203 Wd (some (ppV a)) turn (some v)), (asS D k' q).st) := fun h =>
  bindR h0 (Eq.trans (b := exL (lv (m + 23)) [r203 0, r203 1] (F203 Wd one turn (some v)) (asS D k (a :: r, t)).st) (by kernel_rfl) (xNx h1 (xNx h exL_nil)))
 cases t with
 | some i =>
  obtain ⟨k', hk', e⟩ := push
  exact ⟨k', hk', fin (st_ifF rfl ht e)⟩
 | none =>
  rw [show stp D.sh (a :: r, none) = if (wantL D.sh a).isEmpty then (r, some a) else (r ++ [a], none) from rfl]
  cases q : (wantL D.sh a).isEmpty with
  | false =>
   rw [q] at ht
   rw [if_neg Bool.false_ne_true]
   obtain ⟨k', hk', e⟩ := push
   exact ⟨k', hk', fin (st_ifF rfl ht e)⟩
  | true =>
   rw [q] at ht
   rw [if_pos rfl]
   refine ⟨k, Nat.le_succ _, fin (st_ifT rfl ht (Eq.trans (b := exL (lv (m + 22)) [stL (sA (r203 1)) 0] (F203 Wd (some (ppV a)) turn (some v)) (asS D k (r, none)).st) (by kernel_rfl) (xNx (st_as (L := lv (m + 22)) (v := ppV a) (σ1 := (asS D k (r, none)).st) rfl (by kernel_rfl) (bindR (asg_sub (L := lv (m + 22)) (ov := .ref 38) (w := .int (-1)) (σ1 := (asS D k (r, none)).st) (σ2 := (asS D k (r, none)).st) rfl (by kernel_rfl) (by kernel_rfl) (list_setl (l := D.tk) (v := .str Str.empty) rfl rfl)) rfl)) exL_nil)))⟩
end
noncomputable def fu (sh : Nat -> Nat -> Int) (pq : List Nat) : Nat := (pq.find? fun o => (wantL sh o).isEmpty).getD 0
noncomputable def gr (W : Str -> Nat -> Int) (sh : Nat -> Nat -> Int) (u : Nat) (x : Str) : Nat -> Nat -> Int := upd sh u fun k => W x k + sh u k
noncomputable def gd (S : Str -> Int) (ds : Nat -> List (Str × Int)) (u : Nat) (x : Str) : Nat -> List (Str × Int) := upd ds u (ds u ++ [(x, S x)])
noncomputable def stpN (sh : Nat -> Nat -> Int) : Nat -> List Nat × Option Nat -> List Nat × Option Nat
 | 0, s => s
 | n + 1, s => stpN sh n (stp sh s)
theorem stp4 {sh : Nat -> Nat -> Int} {pq : List Nat} (hl : pq.length = 4) (hn : pq.Nodup) (h : ∃ o ∈ pq, (wantL sh o).isEmpty = true) : stpN sh 4 (pq, none) = (pq.erase (fu sh pq), some (fu sh pq)) := by
 match pq, hl with
 | [a, b, c, d], _ =>
  obtain ⟨o, ho, hw⟩ := h
  have hn1 := List.nodup_cons.mp hn
  have hn2 := List.nodup_cons.mp hn1.2
  have hn3 := List.nodup_cons.mp hn2.2
  have nab : (a == b) = false := beq_false_of_ne fun e => hn1.1 (e ▸ .head _)
  have nac : (a == c) = false := beq_false_of_ne fun e => hn1.1 (e ▸ .tail _ (.head _))
  have nad : (a == d) = false := beq_false_of_ne fun e => hn1.1 (e ▸ .tail _ (.tail _ (.head _)))
  have nbc : (b == c) = false := beq_false_of_ne fun e => hn2.1 (e ▸ .head _)
  have nbd : (b == d) = false := beq_false_of_ne fun e => hn2.1 (e ▸ .tail _ (.head _))
  have ncd : (c == d) = false := beq_false_of_ne fun e => hn3.1 (e ▸ .head _)
  unfold fu
  rw [List.find?_cons, List.find?_cons, List.find?_cons, List.find?_cons]
  have s0 : ∀ {o r}, (wantL sh o).isEmpty = true -> stp sh (o :: r, none) = (r, some o) := fun h => if_pos h
  have s1 : ∀ {o r}, (wantL sh o).isEmpty = false -> stp sh (o :: r, none) = (r ++ [o], none) := fun h => if_neg (by rw [h]; decide)
  have ss : ∀ {o r t}, stp sh (o :: r, some t) = (r ++ [o], some t) := rfl
  show stp sh (stp sh (stp sh (stp sh ([a, b, c, d], none)))) = _
  cases ha : (wantL sh a).isEmpty with
  | true =>
   rw [s0 ha]
   show _ = ([a, b, c, d].erase a, some a)
   rw [List.erase_cons_head]; rfl
  | false =>
   rw [s1 ha]
   cases hb : (wantL sh b).isEmpty with
   | true =>
    show stp sh (stp sh (stp sh (b :: [c, d, a], none))) = ([a, b, c, d].erase b, some b)
    rw [s0 hb, List.erase_cons, nab, if_neg Bool.false_ne_true, List.erase_cons_head]; rfl
   | false =>
    show stp sh (stp sh (stp sh (b :: [c, d, a], none))) = _
    rw [s1 hb]
    cases hc : (wantL sh c).isEmpty with
    | true =>
     show stp sh (stp sh (c :: [d, a, b], none)) = ([a, b, c, d].erase c, some c)
     rw [s0 hc, List.erase_cons, nac, if_neg Bool.false_ne_true, List.erase_cons, nbc, if_neg Bool.false_ne_true, List.erase_cons_head]; rfl
    | false =>
     show stp sh (stp sh (c :: [d, a, b], none)) = _
     rw [s1 hc]
     have hd : (wantL sh d).isEmpty = true := by
      rcases List.mem_cons.mp ho with rfl | ho
      ·rw [ha] at hw; cases hw
      rcases List.mem_cons.mp ho with rfl | ho
      ·rw [hb] at hw; cases hw
      rcases List.mem_cons.mp ho with rfl | ho
      ·rw [hc] at hw; cases hw
      ·rw [<- List.mem_singleton.mp ho]; exact hw
     rw [hd]
     show stp sh (d :: [a, b, c], none) = ([a, b, c, d].erase d, some d)
     rw [s0 hd, List.erase_cons, nad, if_neg Bool.false_ne_true, List.erase_cons, nbd, if_neg Bool.false_ne_true, List.erase_cons, ncd, if_neg Bool.false_ne_true, List.erase_cons_head]
noncomputable def AskI (q : List Nat × Option Nat) : Prop := (∀ o ∈ q.1, o < 4) /\ tk_ok q.2 /\ q.1.length <= 4 /\ (2 <= q.1.length ∨ (q.2.isSome = true /\ 1 <= q.1.length))
theorem ask_cons {q : List Nat × Option Nat} (h : AskI q) : ∃ a r, q.1 = a :: r := by
 obtain ⟨-, -, -, h⟩ := h
 cases e : q.1 with
 | cons a r => exact ⟨a, r, rfl⟩
 | nil =>
  rw [e] at h
  rcases h with h | h
  ·exact absurd h (by decide)
  ·exact absurd h.2 (by decide)
theorem ask_inv {sh : Nat -> Nat -> Int} {a : Nat} {r : List Nat} {t : Option Nat} (h : AskI (a :: r, t)) : AskI (stp sh (a :: r, t)) := by
 obtain ⟨h1, h2, h3, h4⟩ := h
 have m : ∀ o ∈ r ++ [a], o < 4 := fun o ho => by
  rcases List.mem_append.mp ho with ho | ho
  ·exact h1 o (.tail _ ho)
  ·exact h1 o (List.mem_singleton.mp ho ▸ .head _)
 have e : (r ++ [a]).length = (a :: r).length := List.length_append
 cases t with
 | some t => exact ⟨m, h2, by rw [show (stp sh (a :: r, some t)).1 = r ++ [a] from rfl, e]; exact h3, by rw [show (stp sh (a :: r, some t)).1 = r ++ [a] from rfl, e]; exact h4⟩
 | none =>
  have h4 : 2 <= (a :: r).length := h4.resolve_right fun h => nomatch h.1
  rw [show stp sh (a :: r, none) = if (wantL sh a).isEmpty then (r, some a) else (r ++ [a], none) from rfl]
  split
  ·exact ⟨fun o ho => h1 o (.tail _ ho), fun i hi => by cases hi; exact h1 a (.head _), Nat.le_of_succ_le h3, .inr ⟨rfl, Nat.le_of_succ_le_succ h4⟩⟩
  ·exact ⟨m, h2, by rw [e]; exact h3, .inl (by rw [e]; exact h4)⟩
section
variable {m k n a u b z : Nat} {D : DS} {Wd : List (Str × V)} {one turn step : Option V} {v : V} {st : Stmt} {x : Str} {l tk th : List V} {r : List Nat} {t : Option Nat} {o : Nat -> O}
theorem ask_for : ∀ (its : List V) (q : List Nat × Option Nat) (one step : Option V) (k : Nat), AskI q -> k + its.length < 90000 -> ∀ {P : Prop}, (∀ one' step' k', k' <= k + its.length -> forV noChk (turnS (lv (m + 24)) (sT s203) (sA s203)) ((lv (m + 24)).exs []) its (F203 Wd one turn step) (asS D k q).st = some ((.next, F203 Wd one' turn step'), (asS D k' (stpN D.sh its.length q)).st) -> P) -> P
 | [], q, one, step, k, _, _ => fun t => t one step k (Nat.le_refl _) rfl
 | v :: its, q, one, step, k, h, hk => by
  obtain ⟨pq, t⟩ := q
  intro kk
  obtain ⟨a, r, rfl⟩ := ask_cons h
  rw [List.length_cons] at hk
  obtain ⟨k1, h1, e1⟩ := askN (m := m) (D := D) (Wd := Wd) (one := one) (turn := turn) (step := step) (v := v) (k := k) (a := a) (r := r) (t := t) (h.1 a (.head _)) h.2.1 (by have := h.2.2.1; rw [List.length_cons] at this; omega) (by omega)
  exact ask_for its (stp D.sh (a :: r, t)) (some (ppV a)) (some v) k1 (ask_inv h) (by omega) fun one' step' k2 h2 e2 => kk one' step' k2 (by rw [List.length_cons]; omega) (fVc rfl e1 e2)
theorem call_add {w u : Nat -> Int} {a r : List (Str × Int)} (hz : z < 2) (h1 : (a.map (·.1)).Nodup) (h2 : a.length + r.length <= 900) (ha : (a.all fun p => !isQ p.1) = true) (hb : (r.all fun p => !isQ p.1) = true) :
  (lv (m + 18)).call b (.con (.ref 49)) [ent w (dv a), ent u (dv r)] (SO (NA z) o) = some (ent (fun k => u k + w k) (dv (addC a r)), SO (NA z) o) := by
 rw [call_fn (m := m + 17) rfl rfl rfl]
 have hx : ∀ fr, evs (lv (m + 15)) (eA (sE (stL (fiOf 49).body 2))) fr (SO (NA z) o) = some ([.int (u 0 + w 0), .int (u 1 + w 1), .int (u 2 + w 2), .int (u 3 + w 3), .dict (dv (addC a r))], SO (NA z) o) -> exL (lv (m + 16)) [stL (fiOf 49).body 2] fr (SO (NA z) o) = some ((.ret (ent (fun k => u k + w k) (dv (addC a r))), fr), SO (NA z) o) := fun fr h =>
  exL_ret (bindR (liftE rfl) (bindR (a := ent (fun k => u k + w k) (dv (addC a r))) (σ1 := SO (NA z) o) (ev_tup (L := lv (m + 15)) rfl h rfl) rfl))
 let fr : Fr := frA 49 [some (ent w (dv a)), some (ent u (dv r)), some (.int (u 0)), some (.int (u 1)), some (.int (u 2)), some (.int (u 3)), some (.dict (dv r)), some (.int (w 0)), some (.int (w 1)), some (.int (w 2)), some (.int (w 3)), some (.dict (dv a))] [] (NA z)
 refine (en (f := fun z => callFn (lv (m + 17)) b (fiOf 49) [] [ent w (dv a), ent u (dv r)] (SO (NA z) o)) (g := fun z => (exL (lv (m + 16)) [stL (fiOf 49).body 2] (frA 49 [some (ent w (dv a)), some (ent u (dv r)), some (.int (u 0)), some (.int (u 1)), some (.int (u 2)), some (.int (u 3)), some (.dict (dv r)), some (.int (w 0)), some (.int (w 1)), some (.int (w 2)), some (.int (w 3)), some (.dict (dv a))] [] (NA z)) >>= fun r => endFn false (SO (NA z) o) (flV r.1)) (SO (NA z) o)) (n := 2) (by kernel_rfl) z hz).trans (bindR (hx fr ?_) ?_)
 ·obtain ⟨e, s⟩ := plain_at (es := eA (sE (stL (fiOf 49).body 2))) (n := 5) rfl
  rw [e]
  have key : ∀ {e es v vs}, isStarred e = false -> (lv (m + 15)).ev e fr (SO (NA z) o) = some (v, SO (NA z) o) -> evs (lv (m + 15)) es fr (SO (NA z) o) = some (vs, SO (NA z) o) -> evs (lv (m + 15)) (e :: es) fr (SO (NA z) o) = some (v :: vs, SO (NA z) o) := eVc
  refine key (s 0 (by decide)) (by kernel_rfl) (key (s 1 (by decide)) (by kernel_rfl) (key (s 2 (by decide)) (by kernel_rfl) (key (s 3 (by decide)) (by kernel_rfl) (key (s 4 (by decide)) ?_ rfl))))
  exact ev_call (L := lv (m + 14)) (e := eAt (eA (sE (stL (fiOf 49).body 2))) 4) (a := .con (.ref 56)) (σ1 := SO (NA z) o) rfl (by kernel_rfl) rfl (vs := [.dict (dv a), .dict (dv r)]) (σ2 := SO (NA z) o) (by kernel_rfl) (call_ac (m := m + 2) hz h1 h2 ha hb)
 ·refine endF (b := 0) ?_ List.take_length
  exact if_pos (ent_simple (fun k => u k + w k) (addC a r))
theorem D_so : D.st = SO (NA 0) (oOf D.st) := by kernel_rfl
end
theorem lkp_none {α : Type} {x : Str} : ∀ {d : List (Str × α)}, x ∉ d.map (·.1) -> d.lookup x = none := fun {d} h => by
 cases e : d.lookup x with
 | none => rfl
 | some j => exact absurd (List.mem_map.mpr ⟨_, lkp_mem e, rfl⟩) h
noncomputable def KT (th : List Str) (ds : Nat -> List (Str × Int)) : Prop := ∀ i, i < 4 -> ((ds i).map (·.1)).Nodup /\ (∀ p ∈ ds i, p.1 ∈ th) /\ (ds i).length <= th.length
theorem KT.rots {th : List Str} {sh sh' : Nat -> Nat -> Int} {ds ds' : Nat -> List (Str × Int)} {os : List (Nat -> Nat -> Int)} (R : Rots sh ds sh' ds' os) : KT th ds -> KT th ds' := by
 induction R with
 | nil => exact id
 | cons T _ _ ih => exact fun K => ih fun i hi => K _ (T.lt hi)
theorem KT.grow {th : List Str} {ds : Nat -> List (Str × Int)} {S : Str -> Int} {x : Str} {u : Nat} (K : KT th ds) (hx : x ∉ th) (hu : u < 4) : KT (th ++ [x]) (gd S ds u x) := fun i hi => by
 obtain ⟨k1, k2, k3⟩ := K i hi
 unfold gd upd
 by_cases e : i = u
 ·subst e
  rw [if_pos rfl, List.map_append, List.length_append, List.length_append]
  refine ⟨List.nodup_append.mpr ⟨k1, List.nodup_cons.mpr ⟨List.not_mem_nil, List.nodup_nil⟩, fun a ha b hb e => ?_⟩, fun p hp => ?_, Nat.succ_le_succ k3⟩
  ·obtain ⟨p, hp, rfl⟩ := List.mem_map.mp ha
   have e : p.1 = x := e.trans (List.mem_singleton.mp hb)
   exact hx (e ▸ k2 p hp)
  ·rcases List.mem_append.mp hp with hp | hp
   ·exact List.mem_append_left _ (k2 p hp)
   ·rw [List.mem_singleton.mp hp]; exact List.mem_append_right _ (.head _)
 ·rw [if_neg e, List.length_append]
  exact ⟨k1, fun p hp => List.mem_append_left _ (k2 p hp), Nat.le_succ_of_le k3⟩
theorem noQ_all {th : List Str} {d : List (Str × Int)} (hq : ∀ y ∈ th, isQ y = false) (h : ∀ p ∈ d, p.1 ∈ th) : (d.all fun p => !isQ p.1) = true := List.all_eq_true.mpr fun p hp => by rw [hq _ (h p hp)]; rfl
section
variable {m k u : Nat} {D : DS} {Wd : List (Str × V)} {one turn step : Option V} {x : Str} {tk th : List V} {ts : List Str} {W : Str -> Nat -> Int} {S : Str -> Int}
noncomputable def i203 : Stmt := stL (sA (q203 7)) 0
noncomputable def growD (D : DS) (tk th : List V) (u : Nat) (x : Str) : DS := (D.setT (tk ++ [ppV u])).setH (th ++ [.str x])
theorem any_sha {sh : Nat -> Nat -> Int} {ds : Nat -> List (Str × Int)} (hu : u < 4) : ((shaV sh ds).any fun kv => decide (kv.1 = pp u)) = true := en (f := fun u => (shaV sh ds).any fun kv => decide (kv.1 = pp u)) (g := fun _ => true) (n := 4) (by kernel_rfl) u hu
theorem lk_sha {sh : Nat -> Nat -> Int} {ds : Nat -> List (Str × Int)} (hu : u < 4) : (shaV sh ds).lookup (pp u) = some (ent (sh u) (dv (ds u))) := en (f := fun u => (shaV sh ds).lookup (pp u)) (g := fun u => some (ent (sh u) (dv (ds u)))) (n := 4) (by kernel_rfl) u hu
theorem g_last {e : Expr} {n : Nat} (h1 : isSubE e = true) (h2 : (lv n).ev (eL e) (F203 Wd one turn step) (growD D tk th u x).st = some (.ref 38, (growD D tk th u x).st)) (h3 : (lv n).ev (eR e) (F203 Wd one turn step) (growD D tk th u x).st = some (.int (-1), (growD D tk th u x).st)) : (lv (n + 1)).ev e (F203 Wd one turn step) (growD D tk th u x).st = some (ppV u, (growD D tk th u x).st) :=
 ev_sub (L := lv n) h1 h2 h3 (list_last (l := tk) rfl)
theorem g_add (hu : u < 4) (K : KT ts D.ds) (hl : ts.length <= 100) (hq : ∀ y ∈ ts, isQ y = false) (hx : x ∉ ts) (hxq : isQ x = false) {b : Nat} : (lv (m + 18)).call b (.con (.ref 49)) [ent (D.sh u) (dv (D.ds u)), ent (W x) (dv [(x, S x)])] (growD D tk th u x).st = some (ent (fun k => W x k + D.sh u k) (dv (D.ds u ++ [(x, S x)])), (growD D tk th u x).st) := by
 refine hd fun P0 q0 => ?_
 obtain ⟨k1, k2, k3⟩ := K u hu
 refine q0 ?_
 have hxd : x ∉ (D.ds u).map (·.1) := fun h => by
  obtain ⟨p, hp, e⟩ := List.mem_map.mp h
  exact hx (e ▸ k2 p hp)
 have h := call_add (m := m) (b := b) (z := 0) (o := oOf (growD D tk th u x).st) (w := D.sh u) (u := W x) (a := D.ds u) (r := [(x, S x)]) (by decide) k1 (by show _ + 1 <= 900; lia) (noQ_all hq k2) (by show (!isQ x && true) = true; rw [hxq]; rfl)
 rw [<- D_so] at h
 have e : addC (D.ds u) [(x, S x)] = D.ds u ++ [(x, S x)] := by
  show updI (D.ds u) (x, S x) = _
  unfold updI
  rw [lkp_none hxd]
 rw [e] at h
 exact h
theorem s_grow (hu : u < 4) (K : KT ts D.ds) (hl : ts.length <= 100) (hq : ∀ y ∈ ts, isQ y = false) (hx : x ∉ ts) (hxq : isQ x = false) (hW : Wd.lookup x = some (thE (W x) x (S x))) :
  exStep (lv (m + 24)) (q203 7) (F203 Wd one turn step) (growD D tk th u x).st = some ((.next, F203 Wd one turn step), ((growD D tk th u x).setS (gr W D.sh u x) (gd S D.ds u x)).st) := by
 have ht : (lv (m + 24)).tr (sT (q203 7)) (F203 Wd one turn step) (growD D tk th u x).st = some (true, (growD D tk th u x).st) := by
  refine tr_cmp (L := lv (m + 23)) (e := sT (q203 7)) rfl (g_last (n := m + 22) rfl (by kernel_rfl) (by kernel_rfl)) (b := .ref 29) (σ2 := (growD D tk th u x).st) (by kernel_rfl) ((rdict_in (d := shaV D.sh D.ds) rfl).trans ?_)
  rw [any_sha hu]
 have a1 : (lv (m + 22)).ev (eAt (eA (sE i203)) 0) (F203 Wd one turn step) (growD D tk th u x).st = some (ent (D.sh u) (dv (D.ds u)), (growD D tk th u x).st) :=
  ev_sub (L := lv (m + 21)) (e := eAt (eA (sE i203)) 0) (a := .ref 29) (σ1 := (growD D tk th u x).st) rfl (by kernel_rfl) (g_last (n := m + 20) rfl (by kernel_rfl) (by kernel_rfl)) (rdict_get (d := shaV D.sh D.ds) (r := some (ent (D.sh u) (dv (D.ds u)))) rfl (lk_sha hu))
 have a2 : (lv (m + 22)).ev (eAt (eA (sE i203)) 1) (F203 Wd one turn step) (growD D tk th u x).st = some (ent (W x) (dv [(x, S x)]), (growD D tk th u x).st) := by
  refine ev_sub (L := lv (m + 21)) (e := eAt (eA (sE i203)) 1) (a := .dict Wd) (b := .str x) (σ1 := (growD D tk th u x).st) (σ2 := (growD D tk th u x).st) rfl (by kernel_rfl) ?_ (dict_get hW)
  exact ev_sub (L := lv (m + 20)) (e := eR (eAt (eA (sE i203)) 1)) (a := .ref 39) (b := .int (-1)) (σ1 := (growD D tk th u x).st) (σ2 := (growD D tk th u x).st) rfl (by kernel_rfl) (by kernel_rfl) (list_last (l := th) rfl)
 refine st_ifT (L := lv (m + 24)) rfl ht (Eq.trans (b := exL (lv (m + 23)) [i203] (F203 Wd one turn step) (growD D tk th u x).st) (by kernel_rfl) (xNx (st_as (L := lv (m + 23)) (v := ent (fun k => W x k + D.sh u k) (dv (D.ds u ++ [(x, S x)]))) (σ1 := (growD D tk th u x).st) rfl ?_ ?_) exL_nil))
 ·exact ev_call (L := lv (m + 22)) (e := sE i203) (a := .con (.ref 49)) (σ1 := (growD D tk th u x).st) rfl (by kernel_rfl) rfl (evs2 rfl a1 a2) (g_add (m := m + 4) hu K hl hq hx hxq)
 ·refine bindR (asg_sub (L := lv (m + 23)) (t := sT i203) rfl (ov := .ref 29) (σ1 := (growD D tk th u x).st) (by kernel_rfl) (g_last (n := m + 22) rfl (by kernel_rfl) (by kernel_rfl)) (o_set (N := 29) (d := shaV D.sh D.ds) rfl (by rw [ent_simple]; rfl) (by show 4 <= 1000; decide))) ?_
  rw [sha_set u hu]; rfl
end
theorem perm_turn {pq : List Nat} {u : Nat} (h : u ∈ pq) : (pq.erase u ++ [u]).Perm pq := List.perm_append_comm.trans (List.perm_cons_erase h).symm
theorem fu_mem {sh : Nat -> Nat -> Int} {pq : List Nat} (hp : pq.Perm i4) (h : (unwL sh).isEmpty = false) : fu sh pq ∈ pq /\ wantL sh (fu sh pq) = [] /\ ∃ o ∈ pq, (wantL sh o).isEmpty = true := by
 refine hd fun P0 q0 => ?_
 obtain ⟨o, ho⟩ : ∃ o, o ∈ unwL sh := by
  cases q : unwL sh with
  | nil => rw [q] at h; cases h
  | cons a r => exact ⟨a, .head _⟩
 obtain ⟨h1, h2⟩ := List.mem_filter.mp ho
 have hm : o ∈ pq := hp.mem_iff.mpr h1
 obtain ⟨a, ha⟩ : ∃ a, pq.find? (fun o => (wantL sh o).isEmpty) = some a := by
  cases q : pq.find? (fun o => (wantL sh o).isEmpty) with
  | some a => exact ⟨a, rfl⟩
  | none => exact absurd h2 (List.find?_eq_none.mp q o hm)
 refine q0 ?_
 have e : fu sh pq = a := by unfold fu; rw [ha]; rfl
 rw [e]
 exact ⟨List.mem_of_find?_eq_some ha, List.isEmpty_iff.mp (List.find?_some (p := fun o => (wantL sh o).isEmpty) ha), o, hm, h2⟩
noncomputable def mkD (o : Nat -> O) (ln : Int) (w : Option V) (rest : List Str) (pq : List Nat) (sh : Nat -> Nat -> Int) (ds : Nat -> List (Str × Int)) (k : Nat) (tk : List Nat) (th : List Str) (ow : List (Nat -> Nat -> Int)) : DS := ⟨o, ln, strL rest, pq.map ppV, sh, ds, w, nones k, tk.map ppV, strL th, ow.map ownV⟩
theorem snoc_map {α : Type} (f : α -> V) (l : List α) (a : α) : l.map f ++ [f a] = (l ++ [a]).map f := (List.map_append (f := f) (l₁ := l) (l₂ := [a])).symm
section
variable {m k u : Nat} {o : Nat -> O} {ln : Int} {w : Option V} {Wd : List (Str × V)} {one turn step : Option V} {v : V} {x : Str} {rest th : List Str} {pq tk : List Nat} {sh : Nat -> Nat -> Int} {ds : Nat -> List (Str × Int)} {ow : List (Nat -> Nat -> Int)} {W : Str -> Nat -> Int} {S : Str -> Int}
theorem mkD_h : mkD o ln w rest pq sh ds k tk (th ++ [x]) ow = (mkD o ln w rest pq sh ds k tk th ow).setH (strL th ++ [.str x]) := congrArg (fun l => (mkD o ln w rest pq sh ds k tk th ow).setH l) (snoc_map V.str th x).symm
theorem mkD_t : mkD o ln w rest pq sh ds k (tk ++ [u]) th ow = (mkD o ln w rest pq sh ds k tk th ow).setT (tk.map ppV ++ [ppV u]) := congrArg (fun l => (mkD o ln w rest pq sh ds k tk th ow).setT l) (snoc_map ppV tk u).symm
theorem mkD_o {s : Nat -> Nat -> Int} {os : List (Nat -> Nat -> Int)} : mkD o ln w rest pq sh ds k tk th (ow ++ s :: os) = (mkD o ln w rest pq sh ds k tk th ow).setO (ow.map ownV ++ [ownV s] ++ os.map ownV) := congrArg (fun l => (mkD o ln w rest pq sh ds k tk th ow).setO l) (by rw [List.map_append, List.append_assoc]; rfl)
theorem turn203 (hp : pq.Perm i4) (K : KT th ds) (hl : th.length <= 100) (hq : ∀ y ∈ th, isQ y = false) (hx : x ∉ th) (hxq : isQ x = false) (hW : Wd.lookup x = some (thE (W x) x (S x))) (hk : k < 50000) (ht : tk.length < 1000) (ho : ow.length < 1000) :
  ∀ {P : Prop}, (∀ one' step' w' sh1 ds1 os k', Rots sh ds sh1 ds1 os -> (unwL sh1).isEmpty = false -> k' <= k + 2000 -> os.length <= 16 ->
   turnS (lv (m + 35)) (sT (b203 4)) (sA (b203 4)) v (F203 Wd one turn step) (mkD o ln w (x :: rest) pq sh ds k tk th ow).st = some ((.next, F203 Wd one' (some v) step'), (mkD o ln w' rest (pq.erase (fu sh1 pq) ++ [fu sh1 pq]) (gr W sh1 (fu sh1 pq) x) (gd S ds1 (fu sh1 pq) x) k' (tk ++ [fu sh1 pq]) (th ++ [x]) (ow ++ sh :: os)).st) -> P) -> P := by
 intro P kk
 have hpl : pq.length = 4 := hp.length_eq
 have h0 : asg (lv (m + 35)) (sT (b203 4)) v (F203 Wd one turn step) (mkD o ln w (x :: rest) pq sh ds k tk th ow).st = some (F203 Wd one (some v) step, (mkD o ln w (x :: rest) pq sh ds k tk th ow).st) := by kernel_rfl
 have e1 := s_wants (m := m + 6) (D := mkD o ln w (x :: rest) pq sh ds k tk th ow) (Wd := Wd) (one := one) (turn := some v) (step := step) (.inl rfl)
 have e2 := s_own (m := m + 14) (D := wst (mkD o ln w (x :: rest) pq sh ds k tk th ow)) (Wd := Wd) (one := one) (turn := some v) (step := step) (.inl rfl) (by show (ow.map ownV).length < _; rw [List.length_map]; lia)
 refine w_loop (m := m) (Wd := Wd) (one := one) (turn := some v) (step := step) 16 ((mkD o ln w (x :: rest) pq sh ds k tk th ow).setO (ow.map ownV ++ [ownV sh])) k env_le (by lia) (by show (ow.map ownV ++ [ownV sh]).length + 16 < _; rw [List.length_append, List.length_map]; show _ + 1 + 16 < _; lia) fun sh1 ds1 os k1 R hu h1 h2 hw => ?_
 have h1 : os.length <= 16 := Nat.le_trans (Nat.le_of_add_right_le h1) env_le
 have e3 := hw 983
 obtain ⟨hfm, hfw, hex⟩ := fu_mem hp hu
 have hfl : fu sh1 pq < 4 := mem4.mp (hp.mem_iff.mp hfm)
 have hst := stp4 hpl (hp.nodup_iff.mpr (by decide)) hex
 have e4 := s_take (m := m + 4) (D := mkD o ln (some (wanV sh1)) rest pq sh1 ds1 k1 tk th (ow ++ sh :: os)) (Wd := Wd) (one := one) (turn := some v) (step := step) (x := x) (l := strL rest) (by show (strL th).length < _; unfold strL; rw [List.length_map]; lia)
 have e5 := s_none (m := m + 14) (D := (mkD o ln (some (wanV sh1)) rest pq sh1 ds1 k1 tk (th ++ [x]) (ow ++ sh :: os))) (Wd := Wd) (one := one) (turn := some v) (step := step) (by show (tk.map ppV).length < _; rw [List.length_map]; lia)
 refine ask_for (m := m + 10) (D := mkD o ln (some (wanV sh1)) rest pq sh1 ds1 k1 tk (th ++ [x]) (ow ++ sh :: os)) (Wd := Wd) (turn := some v) [iv 0, iv 1, iv 2, iv 3] (pq, none) one step k1 ⟨fun a ha => mem4.mp (hp.mem_iff.mp ha), nofun, Nat.le_of_eq hpl, .inl (by show 2 <= pq.length; lia)⟩ (by show k1 + 4 < _; lia) fun one' step' k2 h3 e6 => ?_
 rw [show stpN (mkD o ln (some (wanV sh1)) rest pq sh1 ds1 k1 tk (th ++ [x]) (ow ++ sh :: os)).sh [iv 0, iv 1, iv 2, iv 3].length (pq, none) = _ from hst] at e6
 have h3 : k2 <= k1 + 4 := h3
 have hE : (pq.erase (fu sh1 pq)).length < 100000 := Nat.lt_of_le_of_lt (List.length_erase_le ..) (by lia)
 have e7a : (lv (m + 32)).ev (eAt (eA (eAt (eA (sE (q203 6))) 0)) 0) (F203 Wd one' (some v) step') (((mkD o ln (some (wanV sh1)) rest pq sh1 ds1 k2 (tk ++ [fu sh1 pq]) (th ++ [x]) (ow ++ sh :: os)).setB ((pq.erase (fu sh1 pq)).map ppV)).setM k2).st = some (ppV (fu sh1 pq), (((mkD o ln (some (wanV sh1)) rest pq sh1 ds1 k2 (tk ++ [fu sh1 pq]) (th ++ [x]) (ow ++ sh :: os)).setB ((pq.erase (fu sh1 pq)).map ppV)).setM k2).st) :=
  ev_sub (L := lv (m + 31)) (e := eAt (eA (eAt (eA (sE (q203 6))) 0)) 0) (a := .ref 38) (b := .int (-1)) (σ1 := (((mkD o ln (some (wanV sh1)) rest pq sh1 ds1 k2 (tk ++ [fu sh1 pq]) (th ++ [x]) (ow ++ sh :: os)).setB ((pq.erase (fu sh1 pq)).map ppV)).setM k2).st) (σ2 := (((mkD o ln (some (wanV sh1)) rest pq sh1 ds1 k2 (tk ++ [fu sh1 pq]) (th ++ [x]) (ow ++ sh :: os)).setB ((pq.erase (fu sh1 pq)).map ppV)).setM k2).st) rfl (by kernel_rfl) (by kernel_rfl) (list_last (l := tk.map ppV) (v := ppV (fu sh1 pq)) (by rw [snoc_map]; rfl))
 have e7 := s_push (m := m + 14) (D := mkD o ln (some (wanV sh1)) rest pq sh1 ds1 k2 (tk ++ [fu sh1 pq]) (th ++ [x]) (ow ++ sh :: os)) (Wd := Wd) (one := one') (turn := some v) (step := step') (st := q203 6) (l := (pq.erase (fu sh1 pq)).map ppV) (x := pp (fu sh1 pq)) (k := k2) (.inr rfl) e7a (by rw [List.length_map]; exact hE) (by lia)
 rw [show V.str (pp (fu sh1 pq)) = ppV (fu sh1 pq) from rfl, snoc_map] at e7
 have e8 := s_grow (m := m + 10) (Wd := Wd) (one := one') (turn := some v) (step := step') (D := mkD o ln (some (wanV sh1)) rest (pq.erase (fu sh1 pq) ++ [fu sh1 pq]) sh1 ds1 (k2 + 1) tk th (ow ++ sh :: os)) (tk := tk.map ppV) (th := strL th) (u := fu sh1 pq) (x := x) (ts := th) (W := W) (S := S) hfl (K.rots R) hl hq hx hxq hW
 refine kk one' step' (some (wanV sh1)) sh1 ds1 os (k2 + 1) R hu (by lia) h1 (bindR h0 (Eq.trans (b := exL (lv (m + 34)) [q203 0, q203 1, q203 2, q203 3, q203 4, q203 5, q203 6, q203 7] (F203 Wd one (some v) step) (mkD o ln w (x :: rest) pq sh ds k tk th ow).st) (by kernel_rfl) (xNx e1 (xNx e2 ?_))))
 refine xNx (fr' := F203 Wd one (some v) step) (σ1 := (mkD o ln (some (wanV sh1)) (x :: rest) pq sh1 ds1 k1 tk th (ow ++ sh :: os)).st) ((congrFun (mono_st (m := m)) _).trans (by rw [mkD_o]; exact e3)) ?_
 refine xNx (fr' := F203 Wd one (some v) step) (σ1 := (mkD o ln (some (wanV sh1)) rest pq sh1 ds1 k1 tk (th ++ [x]) (ow ++ sh :: os)).st) (by rw [mkD_h]; exact e4) (xNx e5 ?_)
 refine xNx (fr' := F203 Wd one' (some v) step') (σ1 := (mkD o ln (some (wanV sh1)) rest (pq.erase (fu sh1 pq)) sh1 ds1 k2 (tk ++ [fu sh1 pq]) (th ++ [x]) (ow ++ sh :: os)).st) (Eq.trans (b := forV noChk (turnS (lv (m + 34)) (sT s203) (sA s203)) ((lv (m + 34)).exs []) [iv 0, iv 1, iv 2, iv 3] (F203 Wd one (some v) step) (asS (mkD o ln (some (wanV sh1)) rest pq sh1 ds1 k1 tk (th ++ [x]) (ow ++ sh :: os)) k1 (pq, none)).st) (by kernel_rfl) (by rw [mkD_t]; exact e6)) ?_
 refine xNx (fr' := F203 Wd one' (some v) step') (σ1 := (mkD o ln (some (wanV sh1)) rest (pq.erase (fu sh1 pq) ++ [fu sh1 pq]) sh1 ds1 (k2 + 1) (tk ++ [fu sh1 pq]) (th ++ [x]) (ow ++ sh :: os)).st) e7 ?_
 refine xNx (fr' := F203 Wd one' (some v) step') ?_ exL_nil
 rw [mkD_t, mkD_h, mkD_t, mkD_h]
 exact e8
end
inductive Deal (W : Str -> Nat -> Int) (S : Str -> Int) : List Str -> List Nat -> (Nat -> Nat -> Int) -> (Nat -> List (Str × Int)) -> List Nat -> (Nat -> Nat -> Int) -> (Nat -> List (Str × Int)) -> List Nat -> List (Nat -> Nat -> Int) -> Prop
 | nil (pq : List Nat) (sh : Nat -> Nat -> Int) (ds : Nat -> List (Str × Int)) : Deal W S [] pq sh ds pq sh ds [] []
 | cons {x : Str} {rest : List Str} {pq pq' us : List Nat} {sh sh1 sh' : Nat -> Nat -> Int} {ds ds1 ds' : Nat -> List (Str × Int)} {os sn : List (Nat -> Nat -> Int)} : Rots sh ds sh1 ds1 os -> (unwL sh1).isEmpty = false ->
   Deal W S rest (pq.erase (fu sh1 pq) ++ [fu sh1 pq]) (gr W sh1 (fu sh1 pq) x) (gd S ds1 (fu sh1 pq) x) pq' sh' ds' us sn -> Deal W S (x :: rest) pq sh ds pq' sh' ds' (fu sh1 pq :: us) (sh :: (os ++ sn))
theorem frz1_list {b N : Nat} {σ : List O} {l : List V} (h : σ[N]? = some (.list l)) (hb : decide (b <= N) = true) (hs : V.simples l = true) : frz1 b σ (.ref N) = some (.list l) := by
 show (if b <= N then (σ[N]?).bind plainO else none) = _
 rw [if_pos (of_decide_eq_true hb), h]
 exact if_pos hs
theorem frz1_cons {b : Nat} {σ : List O} {v u : V} {vs us : List V} (h : frz1 b σ v = some u) (h2 : frz1s b σ vs = some us) : frz1s b σ (v :: vs) = some (u :: us) := by
 show (frz1 b σ v).bind _ = _
 rw [h]
 show (frz1s b σ vs).map _ = _
 rw [h2]; rfl
noncomputable def B0 (o : Nat -> O) (ln : Int) (pa pb : List V) (sh : Nat -> Nat -> Int) (ds : Nat -> List (Str × Int)) : List O := SO 22 o ++ ([lexO ln 20 23, .list pa, o 24, o 25, o 26, lexO 1 25 28, .list pb, .dict (shaV sh ds)] ++ tasO)
section
variable {m : Nat} {o : Nat -> O} {ln : Int} {Wd : List (Str × V)} {W : Str -> Nat -> Int} {S : Str -> Int}
theorem for203 (rest : List Str) : ∀ (its : List V) (w : Option V) (k : Nat) (pq : List Nat) (sh : Nat -> Nat -> Int) (ds : Nat -> List (Str × Int)) (tk : List Nat) (th : List Str) (ow : List (Nat -> Nat -> Int)) (one turn step : Option V), its.length = rest.length -> pq.Perm i4 -> KT th ds -> (∀ y ∈ th ++ rest, isQ y = false) -> (th ++ rest).Nodup -> TabOk Wd W S rest ->
  th.length + rest.length <= 20 -> k + 2000 * rest.length < 50000 -> tk.length + rest.length < 1000 -> ow.length + 17 * rest.length < 1000 ->
  ∀ {P : Prop}, (∀ one' turn' step' w' k' pq' sh' ds' us sn, Deal W S rest pq sh ds pq' sh' ds' us sn -> k' <= k + 2000 * rest.length -> forV noChk (turnS (lv (m + 35)) (sT (b203 4)) (sA (b203 4))) ((lv (m + 35)).exs []) its (F203 Wd one turn step) (mkD o ln w rest pq sh ds k tk th ow).st = some ((.next, F203 Wd one' turn' step'), (mkD o ln w' [] pq' sh' ds' k' (tk ++ us) (th ++ rest) (ow ++ sn)).st) -> P) -> P := by
 induction rest with
 | nil =>
  intro its w k pq sh ds tk th ow one turn step hil hp K hq hn hW b1 b2 b3 b4
  obtain rfl := List.length_eq_zero_iff.mp hil
  exact fun t => t one turn step w k pq sh ds [] [] (.nil _ _ _) (Nat.le_refl _) (by rw [List.append_nil, List.append_nil, List.append_nil]; rfl)
 | cons x rest ih =>
  intro its w k pq sh ds tk th ow one turn step hil hp K hq hn hW b1 b2 b3 b4 P kk
  cases its with
  | nil => cases hil
  | cons v its =>
  rw [List.length_cons] at b1 b2 b3 b4
  have hx : x ∉ th := fun h => (List.nodup_append.mp hn).2.2 x h x (.head _) rfl
  refine turn203 (m := m) (o := o) (ln := ln) (w := w) (Wd := Wd) (one := one) (turn := turn) (step := step) (v := v) (x := x) (rest := rest) (pq := pq) (sh := sh) (ds := ds) (ow := ow) (tk := tk) (W := W) (S := S) (k := k) hp K (by lia) (fun y hy => hq y (List.mem_append_left _ hy)) hx (hq x (List.mem_append_right _ (.head _))) (hW x (.head _)) (by lia) (by lia) (by lia) fun one1 step1 w1 sh1 ds1 os k1 R hu hk1 hos e1 => ?_
  obtain ⟨hfm, -, -⟩ := fu_mem hp hu
  have ea : th ++ [x] ++ rest = th ++ x :: rest := by rw [List.append_assoc]; rfl
  have hb : (ow ++ sh :: os).length = ow.length + (os.length + 1) := List.length_append
  refine ih its w1 k1 (pq.erase (fu sh1 pq) ++ [fu sh1 pq]) (gr W sh1 (fu sh1 pq) x) (gd S ds1 (fu sh1 pq) x) (tk ++ [fu sh1 pq]) (th ++ [x]) (ow ++ sh :: os) one1 (some v) step1 (Nat.succ.inj hil) ((perm_turn hfm).trans hp) ((K.rots R).grow (S := S) hx (mem4.mp (hp.mem_iff.mp hfm))) (by rw [ea]; exact hq) (by rw [ea]; exact hn) (fun t ht => hW t (.tail _ ht)) (by rw [List.length_append]; show th.length + 1 + _ <= _; lia) (by lia) (by rw [List.length_append]; show tk.length + 1 + _ < _; lia) (by lia) fun one2 turn2 step2 w2 k2 pq2 sh2 ds2 us sn D2 hk2 e2 => ?_
  refine kk one2 turn2 step2 w2 k2 pq2 sh2 ds2 _ _ (.cons R hu D2) (by rw [List.length_cons]; lia) (fVc rfl e1 ?_)
  rw [ea, List.append_assoc, List.append_assoc] at e2
  exact e2
theorem call_deal {b : Nat} {line : List Str} (hl : line.length = 6) (hq : ∀ y ∈ line, isQ y = false) (hn : line.Nodup) (hW : TabOk Wd W S line) :
  ∀ {P : Prop}, (∀ k pq sh ds us sn, Deal W S line i4 sh0 ds0 pq sh ds us sn -> k < 20000 -> (lv (m + 38)).call b (.con (.ref 203)) [.inst 101 22, .inst 101 27, .ref 29, tasV, .dict Wd] (B0 o ln (strL line) [] sh0 ds0) = some (.tup [.list (nones k), .list (us.map ppV), .list (strL line), .list (sn.map ownV)], B0 o ln [] (pq.map ppV) sh ds) -> P) -> P := by
 intro P kk
 refine for203 (m := m + 1) (o := o) (ln := ln) (Wd := Wd) (W := W) (S := S) line [iv 0, iv 1, iv 2, iv 3, iv 4, iv 5] none 4 i4 sh0 ds0 [] [] [] none none none hl.symm (.refl _) (fun i hi => ⟨List.nodup_nil, nofun, Nat.le_refl _⟩) hq hn hW (by show 0 + _ <= 20; lia) (by lia) (by show 0 + _ < 1000; lia) (by show 0 + _ < 1000; lia) fun one turn step w k pq sh ds us sn D hk e => ?_
 refine kk k pq sh ds us sn D (by lia) ?_
 rw [call_fn (m := m + 37) rfl rfl rfl]
 refine Eq.trans (b := ((forV noChk (turnS (lv (m + 36)) (sT (b203 4)) (sA (b203 4))) ((lv (m + 36)).exs []) [iv 0, iv 1, iv 2, iv 3, iv 4, iv 5] (F203 Wd none none none) >>= fun r => (match r.1 with | .next => exL (lv (m + 36)) [b203 5] r.2 | fl => pure (fl, r.2))) >>= fun r => endFn false (B0 o ln (strL line) [] sh0 ds0) (flV r.1)) (mkD o ln none line i4 sh0 ds0 4 [] [] []).st) (by kernel_rfl) ?_
 have e : forV noChk (turnS (lv (m + 36)) (sT (b203 4)) (sA (b203 4))) ((lv (m + 36)).exs []) [iv 0, iv 1, iv 2, iv 3, iv 4, iv 5] (F203 Wd none none none) (mkD o ln none line i4 sh0 ds0 4 [] [] []).st = some ((.next, F203 Wd one turn step), (mkD o ln w [] pq sh ds k us line sn).st) := e
 refine bindR (bindR e (Eq.refl (some ((Fl.ret (.tup [.ref 37, .ref 38, .ref 39, .ref 40]), F203 Wd one turn step), (mkD o ln w [] pq sh ds k us line sn).st)))) (endF (b := 0) ?_ (by kernel_rfl))
 refine Eq.trans (b := (frz1s 34 (mkD o ln w [] pq sh ds k us line sn).st [.ref 37, .ref 38, .ref 39, .ref 40]).map .tup) (by kernel_rfl) ?_
 rw [frz1_cons (frz1_list (N := 37) (l := nones k) rfl rfl (nones_simple _)) (frz1_cons (frz1_list (N := 38) (l := us.map ppV) rfl rfl (sMp (fun _ => rfl) _)) (frz1_cons (frz1_list (N := 39) (l := strL line) rfl rfl (sSL _)) (frz1_cons (frz1_list (N := 40) (l := sn.map ownV) rfl rfl (sMp (fun _ => rfl) _)) rfl)))]; rfl
variable {c : Nat -> Int} {a : V}
noncomputable def l21 (c : Nat -> Int) (k : Nat) : List V := l16 c ++ [.list (nones k), lnV c]
noncomputable def c21 (a : V) (c : Nat -> Int) (us : List Nat) (sn : List (Nat -> Nat -> Int)) : List V := c20 a c ++ [.list (us.map ppV), .list (sn.map ownV)]
noncomputable def os21 (c : Nat -> Int) (pb : List V) (sh : Nat -> Nat -> Int) (ds : Nat -> List (Str × Int)) : List O := lexA (lnS (c 0) 6) [.str "z"] [] ++ [compO ((colsOf (c 0)).map colV)] ++ lexB [.str "y"] pb ++ [.dict (shaV sh ds)] ++ tasO
theorem nm_q : ∀ t ∈ nameL, isQ t = false := by decide
theorem x21 : ∃ k pq sh ds us sn, Deal (Wf c) (Sf c) (lineL c) i4 sh0 ds0 pq sh ds us sn /\ k < 20000 /\ Step 21 (l16 c) (c20 a c) true (os20 c) (l21 c k) (c21 a c us sn) true (os21 c (pq.map ppV) sh ds) := by
 refine call_deal (m := 79) (b := 1) (o := oOf (ST true (c20 a c) (os20 c))) (ln := lnS (c 0) 6) (Wd := wtab c 6) (W := Wf c) (S := Sf c) (line_len c) (fun y hy => nm_q y (line_mem c y hy)) (line_nodup c) (fun t ht => tab_ok c t (line_mem c t ht)) fun k pq sh ds us sn D hk e => ?_
 refine ⟨k, pq, sh, ds, us, sn, D, hk, st_as rfl (v := .tup [.list (nones k), .list (us.map ppV), .list (strL (lineL c)), .list (sn.map ownV)]) (σ1 := ST true (c20 a c) (os21 c (pq.map ppV) sh ds)) (ev_call (L := lv 117) (e := sE (s213 21)) (a := .con (.ref 203)) (σ1 := ST true (c20 a c) (os20 c)) rfl (by kernel_rfl) rfl (vs := [.inst 101 22, .inst 101 27, .ref 29, tasV, .dict (wtab c 6)]) (σ2 := ST true (c20 a c) (os20 c)) (by kernel_rfl) ?_) (by kernel_rfl)⟩
 have h1 : B0 (oOf (ST true (c20 a c) (os20 c))) (lnS (c 0) 6) (strL (lineL c)) [] sh0 ds0 = ST true (c20 a c) (os20 c) := by kernel_rfl
 have h2 : B0 (oOf (ST true (c20 a c) (os20 c))) (lnS (c 0) 6) [] (pq.map ppV) sh ds = ST true (c20 a c) (os21 c (pq.map ppV) sh ds) := by kernel_rfl
 rw [h1, h2] at e
 exact e
end
theorem nones_rep : ∀ n : Nat, (List.replicate n [V.none]).flatten = nones n
 | 0 => rfl
 | n + 1 => congrArg (V.none :: ·) (nones_rep n)
theorem nones_deps (d : Nat) : ∀ n, V.deps (nones n) d = true
 | 0 => rfl
 | n + 1 => nones_deps d n
theorem add_lists {x y : List V} {σ : List O} (h : x.length + y.length <= 100000) : binop .Add (.list x) (.list y) σ = some (.list (x ++ y), σ) := bindR (a := x) (σ1 := σ) rfl (bindR (a := y) (σ1 := σ) rfl (bindR (guardE (decide_eq_true h)) rfl))
theorem mul_none {n : Nat} {σ : List O} (h : n <= 100000) : binop .Mult (.list [.none]) (.int n) σ = some (.list (nones n), σ) := by
 refine bindR (a := [V.none]) (σ1 := σ) rfl (bindR (a := (n : Int)) (σ1 := σ) rfl (bindR (guardE ?_) ?_))
 ·rw [decide_eq_true (show [V.none].length * (n : Int).toNat <= lim by rw [Int.toNat_natCast, List.length_singleton, Nat.one_mul]; exact h), decide_eq_true (Int.natCast_nonneg n), decide_eq_true (show ((n : Nat) : Int) <= (lim : Nat) from Int.ofNat_le.mpr h)]; rfl
 ·show some (V.list (List.replicate (n : Int).toNat [V.none]).flatten, σ) = _
  rw [Int.toNat_natCast, nones_rep]
theorem ev_lcT {L : Lv} {e : Expr} {fr : Fr} {σ σ1 σ2 σ3 : List O} {vs items : List V} {chk : Chk} (h : isLc e = true) (hk : (eKp e, eMt e) = (false, false)) (hi : iterSrcC L (eG1 e 0).target (eG1 e 0).iter fr σ = some ((items, chk), σ)) (hc : (takenC fr (eS e).names []).bind (fun cl => (mkCells (eS e).names cl σ).map (·.2)) = some σ3)
  (ht : turns chk (turn1 L (eG1 e 0) (cfr e fr σ) (emitL L e)) items σ3 = some (vs, σ1)) (hl : decide (vs.length <= lim) = true) (hs : V.simples vs = true) (hT : σ1.take σ.length = σ2) : evStep L e fr σ = some (.list vs, σ2) := hT ▸ ev_lc h hk hi hc ht hl hs
section
variable {m k : Nat} {c : Nat -> Int} {a : V} {us pq : List Nat} {sn : List (Nat -> Nat -> Int)} {sh : Nat -> Nat -> Int} {ds : Nat -> List (Str × Int)}
noncomputable def t21 (a : V) (c : Nat -> Int) (us pq : List Nat) (sn : List (Nat -> Nat -> Int)) (sh : Nat -> Nat -> Int) (ds : Nat -> List (Str × Int)) : List O := ST true (c21 a c us sn) (os21 c (pq.map ppV) sh ds)
noncomputable def y22 : Expr := eAt (eA (sT (s213 22))) 1
theorem add22 {n : Nat} {e : Expr} (hk : k < 20000) (h1 : isBinE e = true) (ho : eO e = .Add) (h2 : (lv n).ev (eL e) (fr213 (l21 c k)) (t21 a c us pq sn sh ds) = some (.list (nones 6), t21 a c us pq sn sh ds)) (h3 : (lv n).ev (eR e) (fr213 (l21 c k)) (t21 a c us pq sn sh ds) = some (.list (nones k), t21 a c us pq sn sh ds)) : (lv (n + 1)).ev e (fr213 (l21 c k)) (t21 a c us pq sn sh ds) = some (.list (nones (6 + k)), t21 a c us pq sn sh ds) :=
 ev_bin (L := lv n) h1 h2 h3 (by rw [ho, add_lists (by rw [nones_len, nones_len]; lia), nones_app])
theorem r22 (hk : k < 20000) : (lv 116).ev (eR y22) (fr213 (l21 c k)) (t21 a c us pq sn sh ds) = some (.list (nones (6 + k)), t21 a c us pq sn sh ds) := by
 have h := ev_call (L := lv 114) (e := eR (eR y22)) (a := .con (.builtin "len")) (σ := t21 a c us pq sn sh ds) (σ1 := t21 a c us pq sn sh ds) (fr := fr213 (l21 c k)) rfl (by kernel_rfl) rfl (evs1 rfl (add22 (n := 113) (e := eAt (eA (eR (eR y22))) 0) hk (by kernel_rfl) (by kernel_rfl) (by kernel_rfl) (by kernel_rfl))) (len_call (m := 113))
 rw [nones_len] at h
 exact ev_bin (L := lv 115) (e := eR y22) (a := .list [.none]) (σ1 := t21 a c us pq sn sh ds) rfl (by kernel_rfl) h (mul_none (n := 6 + k) (by lia))
theorem z22 (hk : k < 20000) : (lv 117).tr y22 (fr213 (l21 c k)) (t21 a c us pq sn sh ds) = some (false, t21 a c us pq sn sh ds) :=
 tr_cmp (L := lv 116) (e := y22) (σ1 := t21 a c us pq sn sh ds) rfl (add22 (n := 115) hk (by kernel_rfl) (by kernel_rfl) (by kernel_rfl) (by kernel_rfl)) (r22 hk) (ne_self (nones_simple _) (nones_deps _ _))
theorem x22 (hk : k < 20000) : Step 22 (l21 c k) (c21 a c us sn) true (os21 c (pq.map ppV) sh ds) (l21 c k) (c21 a c us sn) true (os21 c (pq.map ppV) sh ds) := by
 have e1 : (lv 117).tr (eAt (eA (sT (s213 22))) 0) (fr213 (l21 c k)) (t21 a c us pq sn sh ds) = some (false, t21 a c us pq sn sh ds) :=
  tr_cmp (L := lv 116) (e := eAt (eA (sT (s213 22))) 0) (a := lnV c) (b := lnV c) (σ1 := t21 a c us pq sn sh ds) (σ2 := t21 a c us pq sn sh ds) rfl (by kernel_rfl) (by kernel_rfl) (ne_self (sSL _) (deps_strL _ _))
 exact st_no (n := 117) rfl rfl (tr_or (L := lv 117) (e := sT (s213 22)) (by kernel_rfl) e1 (z22 hk))
noncomputable def hd4 (sh : Nat -> Nat -> Int) (ds : Nat -> List (Str × Int)) : List V := i4.map fun k => ent (sh k) (dv (ds k))
noncomputable def c23 (a : V) (c : Nat -> Int) (us : List Nat) (sn : List (Nat -> Nat -> Int)) (sh : Nat -> Nat -> Int) (ds : Nat -> List (Str × Int)) : List V := c21 a c us sn ++ [.list (hd4 sh ds)]
theorem hd4_simple : V.simples (hd4 sh ds) = true := sMp (f := fun k => ent (sh k) (dv (ds k))) (fun _ => ent_simple _ _) i4
theorem x23 : Step 23 (l21 c k) (c21 a c us sn) true (os21 c (pq.map ppV) sh ds) (l21 c k) (c23 a c us sn sh ds) true (os21 c (pq.map ppV) sh ds) := by
 have h : evA (lv 118) (lcE 23) (fr213 (l21 c k)) (t21 a c us pq sn sh ds) = some (.list (hd4 sh ds), t21 a c us pq sn sh ds) :=
  ev_lcT (L := lv 118) (e := lcE 23) rfl (by kernel_rfl) (chk := noChk) (items := i4.map ppV) (by kernel_rfl) (σ3 := t21 a c us pq sn sh ds) (by kernel_rfl) (σ1 := t21 a c us pq sn sh ds) (by kernel_rfl) (by kernel_rfl) hd4_simple List.take_length
 exact st_as rfl h (by kernel_rfl)
end
noncomputable def prv4 (k : Nat) : Nat := (k + 3) % 4
noncomputable def jw (sh : Nat -> Nat -> Int) (k : Nat) : Nat -> Int := fun i => sh k i + (sh (prv4 k) i + sh k i)
noncomputable def jd (ds : Nat -> List (Str × Int)) (k : Nat) : List (Str × Int) := addC (addC (ds k) (ds (prv4 k))) (ds k)
structure OkT (d : List (Str × Int)) : Prop where
 nd : (d.map (·.1)).Nodup
 q : (d.all fun p => !isQ p.1) = true
 len : d.length <= 400
structure OkDs (ds : Nat -> List (Str × Int)) : Prop where
 one : ∀ k, k < 4 -> OkT (ds k)
 two : ∀ k, k < 4 -> OkT (addC (ds k) (ds (prv4 k)))
 three : ∀ k, k < 4 -> OkT (jd ds k)
noncomputable def csum : Int -> List (Str × Int) -> Int
 | n, [] => n
 | n, p :: d => csum (n + p.2) d
theorem csum_eq : ∀ (d : List (Str × Int)) (n : Int), csum n d = n + (d.map (·.2)).sum
 | [], n => (Int.add_zero n).symm
 | p :: d, n => by
  show csum (n + p.2) d = _
  rw [csum_eq d, List.map_cons, List.sum_cons, Int.add_assoc]
noncomputable def tellV (w : Nat -> Int) (d : List (Str × Int)) : V := .tup [.int (w 0), .int (w 1), .int (w 2), .int (w 3), .list (d.map itemV), .int (csum 0 d)]
section
variable {m b n : Nat} {σ : List O} {d : List (Str × Int)} {x : Int} {y : Option V}
noncomputable def F63 (n : Nat) (d : V) (x : Int) (y : Option V) : Fr := frA 63 [some d, some (.int x), y] [] n
theorem cc_for {dd : V} (d : List (Str × Int)) : ∀ (x : Int) (y : Option V), ∃ y', forV noChk (turnS (lv (m + 6)) (sT (stL (fiOf 63).body 1)) (sA (stL (fiOf 63).body 1))) ((lv (m + 6)).exs []) ((dv d).map (·.2)) (F63 n dd x y) σ = some ((.next, F63 n dd (csum x d) y'), σ) := by
 induction d with
 | nil => exact fun x y => ⟨y, rfl⟩
 | cons p d ih =>
  intro x y
  obtain ⟨y', h⟩ := ih (x + p.2) (some (.int p.2))
  exact ⟨y', fVc rfl (by kernel_rfl) h⟩
theorem call_cc : (lv (m + 9)).call b (.con (.ref 63)) [.dict (dv d)] σ = some (.int (csum 0 d), σ) := by
 rw [call_fn (m := m + 8) rfl rfl rfl]
 obtain ⟨y, h⟩ := cc_for (m := m + 1) (n := σ.length) (σ := σ) (dd := .dict (dv d)) d 0 none
 refine Eq.trans (b := ((forV noChk (turnS (lv (m + 7)) (sT (stL (fiOf 63).body 1)) (sA (stL (fiOf 63).body 1))) ((lv (m + 7)).exs []) ((dv d).map (·.2)) (F63 σ.length (.dict (dv d)) 0 none) >>= fun r => (match r.1 with | .next => exL (lv (m + 7)) [stL (fiOf 63).body 2] r.2 | fl => pure (fl, r.2))) >>= fun r => endFn false σ (flV r.1)) σ) (by kernel_rfl) ?_
 exact bindR (bindR h (Eq.refl (some ((Fl.ret (.int (csum 0 d)), F63 σ.length (.dict (dv d)) (csum 0 d) y), σ)))) (endF (b := 0) rfl List.take_length)
theorem list_items (h : OkT d) : (lv (m + 1)).call b (.con (.type "list")) [.view true (dv d)] σ = some (.list (d.map itemV), σ) := by
 refine Eq.trans (b := (guardM (true && (decide ((dv d).length <= lim) && (dv d).all fun kv => !isQ kv.1)) >>= fun _ => pure (V.list ((dv d).map fun kv => .tup [.str kv.1, kv.2]))) σ) (by kernel_rfl) (bindR (guardE ?_) (by rw [dv_items]; rfl))
 have ha : ((dv d).all fun kv => !isQ kv.1) = true := by unfold dv; rw [List.all_map]; exact h.q
 rw [ha, decide_eq_true (show (dv d).length <= lim by rw [dv_len]; exact Nat.le_trans h.len (by decide))]; rfl
end
section
variable {m k : Nat} {c : Nat -> Int} {a : V} {us pq : List Nat} {sn : List (Nat -> Nat -> Int)} {sh : Nat -> Nat -> Int} {ds : Nat -> List (Str × Int)} {w : Nat -> Int} {d : List (Str × Int)}
noncomputable def t23 (a : V) (c : Nat -> Int) (us pq : List Nat) (sn : List (Nat -> Nat -> Int)) (sh : Nat -> Nat -> Int) (ds : Nat -> List (Str × Int)) : List O := ST true (c23 a c us sn sh ds) (os21 c (pq.map ppV) sh ds)
theorem t23_so : t23 a c us pq sn sh ds = SO (NA 1) (oOf (t23 a c us pq sn sh ds)) := by kernel_rfl
theorem add23 {b : Nat} {w u : Nat -> Int} {x y : List (Str × Int)} (h1 : OkT x) (h2 : OkT y) : (lv (m + 18)).call b (.con (.ref 49)) [ent w (dv x), ent u (dv y)] (t23 a c us pq sn sh ds) = some (ent (fun k => u k + w k) (dv (addC x y)), t23 a c us pq sn sh ds) := by
 rw [t23_so]
 exact call_add (by decide) h1.nd (by have := h1.len; have := h2.len; lia) h1.q h2.q
noncomputable def jd4 (sh : Nat -> Nat -> Int) (ds : Nat -> List (Str × Int)) : List V := i4.map fun k => ent (jw sh k) (dv (jd ds k))
noncomputable def l24 (c : Nat -> Int) (k : Nat) (sh : Nat -> Nat -> Int) (ds : Nat -> List (Str × Int)) : List V := l21 c k ++ [.list (jd4 sh ds)]
noncomputable def G24 (k : Nat) (c : Nat -> Int) (a : V) (us pq : List Nat) (sn : List (Nat -> Nat -> Int)) (sh : Nat -> Nat -> Int) (ds : Nat -> List (Str × Int)) (j : Nat) : Fr := cf1 (lcE 24) (fr213 (l21 c k)) (t23 a c us pq sn sh ds) [iv j]
theorem x24 (hd : OkDs ds) : Step 24 (l21 c k) (c23 a c us sn sh ds) true (os21 c (pq.map ppV) sh ds) (l24 c k sh ds) (c23 a c us sn sh ds) true (os21 c (pq.map ppV) sh ds) := by
 have ht := tPu (chk := noChk) (σ := t23 a c us pq sn sh ds) (f := turn1 (lv 118) (eG1 (lcE 24) 0) (cfr (lcE 24) (fr213 (l21 c k)) (t23 a c us pq sn sh ds)) (emitL (lv 118) (lcE 24))) (t := iv) (w := fun j => [ent (jw sh j) (dv (jd ds j))]) (vs := i4) rfl fun j hj => by
  have hj := mem4.mp hj
  refine tGo (fr1 := G24 k c a us pq sn sh ds j) (by kernel_rfl) rfl (mOf ?_)
  have g1 := en2 (f := fun i j => (lv (116 + i)).ev (eAt (eA (if i = 0 then eAt (eA (eL (lcE 24))) 0 else eL (lcE 24))) i) (G24 k c a us pq sn sh ds j) (t23 a c us pq sn sh ds)) (g := fun i j => some (ent (sh j) (dv (ds j)), t23 a c us pq sn sh ds)) (a := 2) (b := 4) (by kernel_rfl)
  have g2 := en (f := fun j => (lv 116).ev (eAt (eA (eAt (eA (eL (lcE 24))) 0)) 1) (G24 k c a us pq sn sh ds j) (t23 a c us pq sn sh ds)) (g := fun j => some (ent (sh (prv4 j)) (dv (ds (prv4 j))), t23 a c us pq sn sh ds)) (n := 4) (by kernel_rfl) j hj
  have hp : prv4 j < 4 := Nat.mod_lt _ (by decide)
  have g3 := ev_call (L := lv 116) (e := eAt (eA (eL (lcE 24))) 0) (a := .con (.ref 49)) (σ := t23 a c us pq sn sh ds) (σ1 := t23 a c us pq sn sh ds) (fr := G24 k c a us pq sn sh ds j) rfl (by kernel_rfl) rfl (evs2 (es := eA (eAt (eA (eL (lcE 24))) 0)) rfl (g1 0 (by decide) j hj) g2) (add23 (m := 98) (hd.one j hj) (hd.one _ hp))
  exact ev_call (L := lv 117) (e := eL (lcE 24)) (a := .con (.ref 49)) (σ1 := t23 a c us pq sn sh ds) rfl (by kernel_rfl) rfl (evs2 (es := eA (eL (lcE 24))) rfl g3 (g1 1 (by decide) j hj)) (add23 (m := 99) (hd.two j hj) (hd.one j hj))
 rw [flat_one] at ht
 have h : evA (lv 118) (lcE 24) (fr213 (l21 c k)) (t23 a c us pq sn sh ds) = some (.list (jd4 sh ds), t23 a c us pq sn sh ds) :=
  ev_lcT (L := lv 118) (e := lcE 24) rfl (by kernel_rfl) (chk := noChk) (items := i4.map iv) (by kernel_rfl) (σ3 := t23 a c us pq sn sh ds) (by kernel_rfl) ht (by kernel_rfl) (sMp (f := fun k => ent (jw sh k) (dv (jd ds k))) (fun _ => ent_simple _ _) i4) List.take_length
 exact st_as rfl h (by kernel_rfl)
end
noncomputable def allS (sh : Nat -> Nat -> Int) (ds : Nat -> List (Str × Int)) : List ((Nat -> Int) × List (Str × Int)) := i4.map (fun k => (sh k, ds k)) ++ i4.map fun k => (jw sh k, jd ds k)
noncomputable def entP (p : (Nat -> Int) × List (Str × Int)) : V := ent p.1 (dv p.2)
noncomputable def tellP (p : (Nat -> Int) × List (Str × Int)) : V := tellV p.1 p.2
noncomputable def toldV (sh : Nat -> Nat -> Int) (ds : Nat -> List (Str × Int)) : V := .list ((allS sh ds).map tellP)
theorem all_ok {sh : Nat -> Nat -> Int} {ds : Nat -> List (Str × Int)} (h : OkDs ds) : ∀ p ∈ allS sh ds, OkT p.2 := fun p hp => by
 rcases List.mem_append.mp hp with hp | hp
 ·obtain ⟨k, hk, rfl⟩ := List.mem_map.mp hp
  exact h.one k (mem4.mp hk)
 ·obtain ⟨k, hk, rfl⟩ := List.mem_map.mp hp
  exact h.three k (mem4.mp hk)
theorem tell_simple (p : (Nat -> Int) × List (Str × Int)) : (tellP p).simple = true := by
 show (V.simples (p.2.map itemV) && (true && true)) = true
 rw [sMp (fun _ => rfl)]; rfl
noncomputable def lotL (line : List Str) (d : List (Str × Int)) : List Str := line.filter fun t => decide (t ∈ d.map (·.1))
theorem any_keys (x : Str) (d : List (Str × Int)) : ((dv d).any fun kv => decide (kv.1 = x)) = decide (x ∈ d.map (·.1)) := by
 unfold dv
 rw [List.any_map]
 cases h : d.any fun p => decide (p.1 = x) with
 | true =>
  obtain ⟨p, hp, e⟩ := List.any_eq_true.mp h
  exact h.trans (decide_eq_true (List.mem_map.mpr ⟨p, hp, of_decide_eq_true e⟩)).symm
 | false =>
  refine h.trans (decide_eq_false fun hm => ?_).symm
  obtain ⟨p, hp, e⟩ := List.mem_map.mp hm
  exact absurd (decide_eq_true e) (List.any_eq_false.mp h p hp)
theorem strL_len (l : List Str) : (strL l).length = l.length := List.length_map ..
noncomputable def lotV (line : List Str) (ds : Nat -> List (Str × Int)) (k : Nat) : V := .list (strL (lotL line (ds k)))
theorem lot_simple (line : List Str) (ds : Nat -> List (Str × Int)) (k : Nat) : (lotV line ds k).simple = true := sSL (lotL line (ds k))
theorem lots_simple (line : List Str) (ds : Nat -> List (Str × Int)) : V.simples (i4.map (lotV line ds)) = true := sMp (lot_simple line ds) i4
noncomputable def lotsV (line : List Str) (ds : Nat -> List (Str × Int)) : V := .list (i4.map (lotV line ds))
section
variable {m k : Nat} {c : Nat -> Int} {a : V} {us pq : List Nat} {sn : List (Nat -> Nat -> Int)} {sh : Nat -> Nat -> Int} {ds : Nat -> List (Str × Int)} {w : Nat -> Int} {d : List (Str × Int)}
noncomputable def l25 (c : Nat -> Int) (k : Nat) (sh : Nat -> Nat -> Int) (ds : Nat -> List (Str × Int)) : List V := l24 c k sh ds ++ [toldV sh ds]
theorem x25 (hd : OkDs ds) : Step 25 (l24 c k sh ds) (c23 a c us sn sh ds) true (os21 c (pq.map ppV) sh ds) (l25 c k sh ds) (c23 a c us sn sh ds) true (os21 c (pq.map ppV) sh ds) := by
 have ht := tPu (chk := noChk) (σ := t23 a c us pq sn sh ds) (f := turn1 (lv 118) (eG1 (lcE 25) 0) (cfr (lcE 25) (fr213 (l24 c k sh ds)) (t23 a c us pq sn sh ds)) (emitL (lv 118) (lcE 25))) (t := entP) (w := fun p => [tellP p]) (vs := allS sh ds) rfl fun p hp => by
  have ho := all_ok hd p hp
  obtain ⟨w, d⟩ := p
  refine tGo (fr1 := cf1 (lcE 25) (fr213 (l24 c k sh ds)) (t23 a c us pq sn sh ds) [ent w (dv d)]) (by kernel_rfl) rfl (mOf ?_)
  have g1 := ev_call (L := lv 115) (e := eAt (eA (eR (eL (lcE 25)))) 0) (a := .con (.type "list")) (σ := t23 a c us pq sn sh ds) (σ1 := t23 a c us pq sn sh ds) (fr := cf1 (lcE 25) (fr213 (l24 c k sh ds)) (t23 a c us pq sn sh ds) [ent w (dv d)]) (vs := [.view true (dv d)]) (σ2 := t23 a c us pq sn sh ds) rfl (by kernel_rfl) rfl (by kernel_rfl) (list_items (m := 114) ho)
  have g2 := ev_call (L := lv 115) (e := eAt (eA (eR (eL (lcE 25)))) 1) (a := .con (.ref 63)) (σ := t23 a c us pq sn sh ds) (σ1 := t23 a c us pq sn sh ds) (fr := cf1 (lcE 25) (fr213 (l24 c k sh ds)) (t23 a c us pq sn sh ds) [ent w (dv d)]) (vs := [.dict (dv d)]) (σ2 := t23 a c us pq sn sh ds) rfl (by kernel_rfl) rfl (by kernel_rfl) (call_cc (m := 106))
  exact ev_bin (L := lv 117) (e := eL (lcE 25)) (a := .tup [.int (w 0), .int (w 1), .int (w 2), .int (w 3)]) (σ1 := t23 a c us pq sn sh ds) rfl (by kernel_rfl) (ev_tup (L := lv 116) (e := eR (eL (lcE 25))) rfl (evs2 rfl g1 g2) rfl) rfl
 rw [flat_one] at ht
 have h : evA (lv 118) (lcE 25) (fr213 (l24 c k sh ds)) (t23 a c us pq sn sh ds) = some (toldV sh ds, t23 a c us pq sn sh ds) :=
  ev_lcT (L := lv 118) (e := lcE 25) rfl (by kernel_rfl) (chk := noChk) (items := (allS sh ds).map entP) (by kernel_rfl) (σ3 := t23 a c us pq sn sh ds) (by kernel_rfl) ht (by kernel_rfl) (sMp tell_simple _) List.take_length
 exact st_as rfl h (by kernel_rfl)
noncomputable def c26 (a : V) (c : Nat -> Int) (us : List Nat) (sn : List (Nat -> Nat -> Int)) (sh : Nat -> Nat -> Int) (ds : Nat -> List (Str × Int)) : List V := c23 a c us sn sh ds ++ [.dict (wtab c 6)]
noncomputable def t26 (a : V) (c : Nat -> Int) (us pq : List Nat) (sn : List (Nat -> Nat -> Int)) (sh : Nat -> Nat -> Int) (ds : Nat -> List (Str × Int)) : List O := ST true (c26 a c us sn sh ds) (os21 c (pq.map ppV) sh ds)
theorem x26 (hb : ∀ j, (c j).natAbs < big) : Step 26 (l25 c k sh ds) (c23 a c us sn sh ds) true (os21 c (pq.map ppV) sh ds) (l25 c k sh ds) (c26 a c us sn sh ds) true (os21 c (pq.map ppV) sh ds) := by
 have hc : (lv 117).call 1 (.con (.ref 178)) [cellsV c, namesV] (t23 a c us pq sn sh ds) = some (.dict (wtab c 6), t23 a c us pq sn sh ds) := by
  rw [t23_so]
  exact call_worths (m := 102) (z := 1) (by decide) hb
 have h : evA (lv 118) (lcE 26) (fr213 (l25 c k sh ds)) (t23 a c us pq sn sh ds) = some (.dict (wtab c 6), t23 a c us pq sn sh ds) :=
  ev_call (L := lv 117) (e := lcE 26) (a := .con (.ref 178)) (σ1 := t23 a c us pq sn sh ds) rfl (by kernel_rfl) rfl (vs := [cellsV c, namesV]) (σ2 := t23 a c us pq sn sh ds) (by kernel_rfl) hc
 exact st_as rfl h (by kernel_rfl)
noncomputable def c27 (a : V) (c : Nat -> Int) (us : List Nat) (sn : List (Nat -> Nat -> Int)) (sh : Nat -> Nat -> Int) (ds : Nat -> List (Str × Int)) : List V := c26 a c us sn sh ds ++ [lotsV (lineL c) ds]
noncomputable def i27 : Expr := eL (lcE 27)
noncomputable def F27 (k : Nat) (c : Nat -> Int) (a : V) (us pq : List Nat) (sn : List (Nat -> Nat -> Int)) (sh : Nat -> Nat -> Int) (ds : Nat -> List (Str × Int)) : Fr := cfr (lcE 27) (fr213 (l25 c k sh ds)) (t26 a c us pq sn sh ds)
noncomputable def S27 (a : V) (c : Nat -> Int) (us pq : List Nat) (sn : List (Nat -> Nat -> Int)) (sh : Nat -> Nat -> Int) (ds : Nat -> List (Str × Int)) (j : Nat) : List O := t26 a c us pq sn sh ds ++ [.cell (if j = 0 then none else some (ent (sh (j - 1)) (dv (ds (j - 1)))))]
theorem lot_ev {j : Nat} (hj : j < 4) : (lv 118).ev i27 (F27 k c a us pq sn sh ds) (S27 a c us pq sn sh ds (j + 1)) = some (lotV (lineL c) ds j, S27 a c us pq sn sh ds (j + 1)) := by
 have ht := tPu (chk := noChk) (σ := S27 a c us pq sn sh ds (j + 1)) (f := turn1 (lv 117) (eG1 i27 0) (cfr i27 (F27 k c a us pq sn sh ds) (S27 a c us pq sn sh ds (j + 1))) (emitL (lv 117) i27)) (t := V.str) (w := fun t => if decide (t ∈ (ds j).map (·.1)) then [V.str t] else []) (vs := lineL c) rfl fun t ht => by
  refine turn_if (fr1 := cf1 i27 (F27 k c a us pq sn sh ds) (S27 a c us pq sn sh ds (j + 1)) [.str t]) (by kernel_rfl) ?_ (by kernel_rfl)
  refine Eq.trans (b := tests (lv 117) [eAt (eG1 i27 0).ifs 0] (cf1 i27 (F27 k c a us pq sn sh ds) (S27 a c us pq sn sh ds (j + 1)) [.str t]) (S27 a c us pq sn sh ds (j + 1))) (by kernel_rfl) (tests_one ?_)
  rw [<- any_keys]
  exact tr_cmp (L := lv 116) (e := eAt (eG1 i27 0).ifs 0) (a := .str t) (b := .dict (dv (ds j))) (σ1 := S27 a c us pq sn sh ds (j + 1)) (σ2 := S27 a c us pq sn sh ds (j + 1)) rfl (by kernel_rfl) (by kernel_rfl) rfl
 rw [filt_one] at ht
 exact ev_lcT (L := lv 117) (e := i27) rfl (by kernel_rfl) (chk := noChk) (items := strL (lineL c)) (by kernel_rfl) (σ3 := S27 a c us pq sn sh ds (j + 1)) (by kernel_rfl) ht (decide_eq_true (show (strL (lotL (lineL c) (ds j))).length <= lim by
  rw [strL_len]
  exact Nat.le_trans (List.length_filter_le ..) (by rw [line_len]; decide))) (sSL _) List.take_length
theorem x27 : Step 27 (l25 c k sh ds) (c26 a c us sn sh ds) true (os21 c (pq.map ppV) sh ds) (l25 c k sh ds) (c27 a c us sn sh ds) true (os21 c (pq.map ppV) sh ds) := by
 have ht : turns noChk (turn1 (lv 118) (eG1 (lcE 27) 0) (F27 k c a us pq sn sh ds) (emitL (lv 118) (lcE 27))) (hd4 sh ds) (S27 a c us pq sn sh ds 0) = some ((List.range' 0 4).flatMap fun j => [lotV (lineL c) ds j], S27 a c us pq sn sh ds 4) := by
  refine Eq.trans (b := turns noChk (turn1 (lv 118) (eG1 (lcE 27) 0) (F27 k c a us pq sn sh ds) (emitL (lv 118) (lcE 27))) ((List.range' 0 4).map fun j => ent (sh j) (dv (ds j))) (S27 a c us pq sn sh ds 0)) (by kernel_rfl) (turns_chain (it := fun j => ent (sh j) (dv (ds j))) (S := S27 a c us pq sn sh ds) (w := fun j => [lotV (lineL c) ds j]) (n := 4) (k := 0) fun j hj => ?_)
  rw [Nat.zero_add]
  have h1 := en (f := fun j => asgC (eG1 (lcE 27) 0).target (ent (sh j) (dv (ds j))) (F27 k c a us pq sn sh ds) (S27 a c us pq sn sh ds j)) (g := fun j => some (F27 k c a us pq sn sh ds, S27 a c us pq sn sh ds (j + 1))) (n := 4) (by kernel_rfl) j hj
  exact turn_go2 h1 rfl (mOf (lot_ev hj))
 rw [show ((List.range' 0 4).flatMap fun j => [lotV (lineL c) ds j]) = i4.map (lotV (lineL c) ds) by kernel_rfl] at ht
 have h : evA (lv 118) (lcE 27) (fr213 (l25 c k sh ds)) (t26 a c us pq sn sh ds) = some (lotsV (lineL c) ds, t26 a c us pq sn sh ds) :=
  ev_lcT (L := lv 118) (e := lcE 27) rfl (by kernel_rfl) (chk := noChk) (items := hd4 sh ds) (by kernel_rfl) (σ3 := S27 a c us pq sn sh ds 0) (by kernel_rfl) ht (by kernel_rfl) (lots_simple _ _) (by kernel_rfl)
 exact st_as rfl h (by kernel_rfl)
end
noncomputable def unlA : List Str -> List Str -> List Str
 | _, [] => []
 | pre, t :: r => (if t ∈ pre then [] else [t]) ++ unlA (pre ++ [t]) r
noncomputable def tabP (S : Str -> Int) (ts us : List Str) : List (Str × Int) := us.map fun t => (t, S t * (ts.count t : Nat))
noncomputable def shareV (W : Str -> Nat -> Int) (S : Str -> Int) (ts : List Str) : V := .tup [.int (ts.map fun t => W t 0).sum, .int (ts.map fun t => W t 1).sum, .int (ts.map fun t => W t 2).sum, .int (ts.map fun t => W t 3).sum, .list ((tabP S ts (unlA [] ts)).map itemV), .int ((tabP S ts (unlA [] ts)).map (·.2)).sum]
theorem all_strL (l : List Str) : (strL l).all isStrV = true := by unfold strL; rw [List.all_map]; exact List.all_eq_true.mpr fun _ _ => rfl
theorem any_strL (x : Str) (l : List Str) : (strL l).any (strIs x) = decide (x ∈ l) := by
 unfold strL
 rw [List.any_map]
 induction l with
 | nil => rfl
 | cons y l ih =>
  rw [List.any_cons, ih]
  show (decide (y = x) || decide (x ∈ l)) = _
  by_cases h : y = x
  ·rw [decide_eq_true h, decide_eq_true (show x ∈ y :: l from h ▸ .head _)]; rfl
  ·rw [decide_eq_false h]
   exact decide_eq_decide.mpr ⟨.tail _, fun hm => (List.mem_cons.mp hm).resolve_left fun e => h e.symm⟩
theorem notin_str {x : Str} {l : List Str} {σ : List O} : cmp .NotIn (.str x) (.list (strL l)) σ = some (!decide (x ∈ l), σ) := by
 refine bindR (a := x) (σ1 := σ) rfl (bindR (a := decide (x ∈ l)) (σ1 := σ) (liftE ?_) rfl)
 unfold vin
 rw [if_pos (all_strL l), any_strL]
theorem count_str {b : Nat} {x : Str} {l : List Str} {σ : List O} : callBm b "list.count" (.list (strL l)) [.str x] σ = some (.int (l.count x : Nat), σ) := by
 refine bindR (a := strL l) (σ1 := σ) rfl (bindR (a := V.str x) (σ1 := σ) rfl (bindR (a := x) (σ1 := σ) rfl (bindR (guardE (all_strL l)) ?_)))
 have : (strL l).countP (strIs x) = l.count x := by
  unfold strL List.count
  rw [List.countP_map]
  exact List.countP_congr fun y _ => by
   show decide (y = x) = true ↔ (y == x) = true
   rw [decide_eq_true_eq, beq_iff_eq]
 rw [this]; rfl
noncomputable def sl3 (e : Expr) : Option Expr × Option Expr × Option Expr := (slice? (eR e)).getD (none, none, none)
noncomputable def isSlcE (e : Expr) : Bool := (slice? (eR e)).isSome
noncomputable def isSub0 (e : Expr) : Bool := e.ctorIdx == 21
theorem ev_slc {L : Lv} {e : Expr} {fr : Fr} {σ : List O} {ov : V} {l h s : Option Int} {r : Option (V × List O)} (g : (isSub0 e && isSlcE e) = true) (h1 : L.ev (eL e) fr σ = some (ov, σ)) (h2 : intO L (sl3 e).1 fr σ = some (l, σ)) (h3 : intO L (sl3 e).2.1 fr σ = some (h, σ)) (h4 : intO L (sl3 e).2.2 fr σ = some (s, σ)) (h5 : sliceV l h s ov σ = r) : evStep L e fr σ = r := by
 obtain ⟨o, i, p, rfl⟩ := sub_of (and_of g).1
 obtain ⟨q, e⟩ := Option.isSome_iff_exists.mp (and_of g).2
 have e : slice? i = some q := e
 have e2 : sl3 (.Subscript o i p) = q := by
  show (slice? i).getD _ = q
  rw [e]; rfl
 rw [e2] at h2 h3 h4
 show evSub L o i fr σ = _
 unfold evSub
 rw [e]
 exact bindR h1 (bindR h2 (bindR h3 (bindR h4 h5)))
theorem slc_take {k : Nat} {vs : List V} {σ : List O} : sliceV none (some (k : Int)) none (.list vs) σ = some (.list (vs.take k), σ) := by
 refine bindR (a := vs) (σ1 := σ) rfl (bindR (a := vs.take k) (σ1 := σ) (liftE ?_) rfl)
 show (if (0 : Int) <= 0 /\ (0 : Int) <= (k : Int) then some ((vs.take (k : Int).toNat).drop 0) else none) = _
 rw [if_pos ⟨Int.le_refl _, Int.natCast_nonneg k⟩]; rfl
theorem unlA_len : ∀ (ts pre : List Str), (unlA pre ts).length <= ts.length
 | [], _ => Nat.le_refl _
 | t :: r, pre => by
  have h := unlA_len r (pre ++ [t])
  show ((if t ∈ pre then [] else [t]) ++ unlA (pre ++ [t]) r).length <= r.length + 1
  rw [List.length_append]
  split
  ·rw [List.length_nil]; lia
  ·rw [List.length_singleton]; lia
theorem unlA_mem : ∀ (ts pre : List Str), ∀ t ∈ unlA pre ts, t ∈ ts
 | x :: r, pre, t, h => by
  rcases List.mem_append.mp (show t ∈ (if x ∈ pre then [] else [x]) ++ unlA (pre ++ [x]) r from h) with h | h
  ·split at h
   ·cases h
   ·rw [List.mem_singleton.mp h]; exact .head _
  ·exact .tail _ (unlA_mem r _ t h)
noncomputable def b208 (i : Nat) : Stmt := stL (fiOf 208).body i
noncomputable def e0 : Expr := eAt (eA (sE (b208 0))) 0
noncomputable def u0 : Expr := eAt (eA (eL e0)) 0
noncomputable def e1 : Expr := sE (b208 1)
noncomputable def e2 : Expr := sE (b208 2)
noncomputable def e3 : Expr := sE (b208 3)
noncomputable def sm4 (W : Str -> Nat -> Int) (ts : List Str) : V := .tup [.int (ts.map fun t => W t 0).sum, .int (ts.map fun t => W t 1).sum, .int (ts.map fun t => W t 2).sum, .int (ts.map fun t => W t 3).sum]
section
variable {m b : Nat} {o : Nat -> O} {Wd : List (Str × V)} {W : Str -> Nat -> Int} {S : Str -> Int} {ts : List Str} {x y z : Option V}
noncomputable def F208 (x y z : Option V) : Fr := frA 208 [x, y, z] [("worths", 35), ("things", 34)] 34
noncomputable def S208 (o : Nat -> O) (ts : List Str) (Wd : List (Str × V)) : List O := SO 34 o ++ [.cell (some (.list (strL ts))), .cell (some (.dict Wd))]
noncomputable def U208 (o : Nat -> O) (ts : List Str) (Wd : List (Str × V)) (i : Nat) : List O := S208 o ts Wd ++ [.cell (if i = 0 then none else some (iv (i - 1)))]
theorem sh_in {i : Nat} (hi : i < 4) (hW : TabOk Wd W S ts) (hl : ts.length <= 100) : (lv (m + 8)).ev u0 (cfr e0 (F208 x y z) (S208 o ts Wd)) (U208 o ts Wd (i + 1)) = some (.list ((ts.map fun t => W t i).map .int), U208 o ts Wd (i + 1)) := by
 have ht := tPu (chk := noChk) (σ := U208 o ts Wd (i + 1)) (f := turn1 (lv (m + 7)) (eG1 u0 0) (cfr u0 (cfr e0 (F208 x y z) (S208 o ts Wd)) (U208 o ts Wd (i + 1))) (emitL (lv (m + 7)) u0)) (t := V.str) (w := fun t => [V.int (W t i)]) (vs := ts) rfl fun t ht => by
  refine tGo (fr1 := cf1 u0 (cfr e0 (F208 x y z) (S208 o ts Wd)) (U208 o ts Wd (i + 1)) [.str t]) (by kernel_rfl) rfl (mOf ?_)
  refine ev_sub (L := lv (m + 6)) (e := eL u0) rfl (ev_sub (L := lv (m + 5)) (e := eL (eL u0)) (a := .dict Wd) (b := .str t) (σ1 := U208 o ts Wd (i + 1)) (σ2 := U208 o ts Wd (i + 1)) rfl (by kernel_rfl) (by kernel_rfl) (dict_get (hW t ht))) (b := iv i) (σ2 := U208 o ts Wd (i + 1)) (by kernel_rfl) (tup_get hi)
 have hm : ((ts.flatMap fun t => [V.int (W t i)])) = (ts.map fun t => W t i).map .int := by rw [List.map_map]; exact flat_one ts
 rw [hm] at ht
 exact ev_lcT (L := lv (m + 7)) (e := u0) rfl (by kernel_rfl) (chk := noChk) (items := strL ts) (by kernel_rfl) (σ3 := U208 o ts Wd (i + 1)) (by kernel_rfl) ht (decide_eq_true (show _ <= lim by rw [List.length_map, List.length_map]; exact Nat.le_trans hl (by decide))) (sMp (fun _ => rfl) _) List.take_length
theorem sh_sums (hW : TabOk Wd W S ts) (hl : ts.length <= 100) : exStep (lv (m + 12)) (b208 0) (F208 none none none) (S208 o ts Wd) = some ((.next, F208 (some (sm4 W ts)) none none), S208 o ts Wd) := by
 have ht : turns noChk (turn1 (lv (m + 10)) (eG1 e0 0) (cfr e0 (F208 none none none) (S208 o ts Wd)) (emitL (lv (m + 10)) e0)) (it 4) (U208 o ts Wd 0) = some ((List.range' 0 4).flatMap fun i => [V.int (ts.map fun t => W t i).sum], U208 o ts Wd 4) := by
  refine turns_n (S := U208 o ts Wd) (w := fun i => [V.int (ts.map fun t => W t i).sum]) fun i hi => ?_
  have h1 : asgC (eG1 e0 0).target (iv i) (cfr e0 (F208 none none none) (S208 o ts Wd)) (U208 o ts Wd i) = some (cfr e0 (F208 none none none) (S208 o ts Wd), U208 o ts Wd (i + 1)) := en (f := fun i => asgC (eG1 e0 0).target (iv i) (cfr e0 (F208 none none none) (S208 o ts Wd)) (U208 o ts Wd i)) (g := fun i => some (cfr e0 (F208 none none none) (S208 o ts Wd), U208 o ts Wd (i + 1))) (n := 4) (by kernel_rfl) i hi
  exact turn_go2 h1 rfl (mOf (ev_call (L := lv (m + 9)) (e := eL e0) (a := .con (.builtin "sum")) (σ1 := U208 o ts Wd (i + 1)) rfl (by kernel_rfl) rfl (evs1 rfl (sh_in (m := m + 1) hi hW hl)) (call_sum (m := m + 8))))
 have h1 := ev_lcT (L := lv (m + 10)) (e := e0) rfl (by kernel_rfl) (chk := noChk) (items := it 4) (fr := F208 none none none) (σ := S208 o ts Wd) (by kernel_rfl) (σ3 := U208 o ts Wd 0) (by kernel_rfl) ht (by kernel_rfl) (by kernel_rfl) (σ2 := S208 o ts Wd) (by kernel_rfl)
 have h2 : evA (lv (m + 12)) (sE (b208 0)) (F208 none none none) (S208 o ts Wd) = some (sm4 W ts, S208 o ts Wd) := ev_call (L := lv (m + 11)) (e := sE (b208 0)) (a := .con (.type "tuple")) (σ1 := S208 o ts Wd) rfl (by kernel_rfl) rfl (evs1 rfl h1) (by kernel_rfl)
 exact st_as rfl h2 (by kernel_rfl)
end
theorem if_not {p : Prop} [Decidable p] {α : Type} {a b : α} : (if (!decide p) = true then a else b) = if p then b else a := by
 by_cases h : p
 ·rw [decide_eq_true h, if_pos h]; rfl
 ·rw [decide_eq_false h, if_neg h]; rfl
theorem intsum (l : List (Str × Int)) : ((l.map (·.2)).map V.int) = l.map fun p => V.int p.2 := List.map_map ..
theorem tab_simple (l : List (Str × Int)) : V.simples (l.map itemV) = true := sMp (fun _ => rfl) l
section
variable {m b k : Nat} {o : Nat -> O} {Wd : List (Str × V)} {W : Str -> Nat -> Int} {S : Str -> Int} {ts : List Str} {x y z : Option V} {t : Str}
theorem sh_at {L : Lv} {e : Expr} {fr : Fr} {σ : List O} (h : isSubE e = true) (h1 : L.ev (eL e) fr σ = some (.list (strL ts), σ)) (h2 : L.ev (eR e) fr σ = some (iv k, σ)) (hk : ts[k]? = some t) : evStep L e fr σ = some (.str t, σ) :=
 ev_sub h h1 h2 (list_get (by rw [pick_nat]; unfold strL; rw [List.getElem?_map, hk]; rfl))
noncomputable def g1 : Comprehension := eG1 e1 0
noncomputable def j1 : Expr := eAt g1.ifs 0
theorem sh_unl1 (hk : ts[k]? = some t) : turn1 (lv (m + 9)) g1 (cfr e1 (F208 x y z) (S208 o ts Wd)) (emitL (lv (m + 9)) e1) (iv k) (S208 o ts Wd) = some (strL (if t ∈ ts.take k then [] else [t]), S208 o ts Wd) := by
 have ht : (lv (m + 9)).tr j1 (cf1 e1 (F208 x y z) (S208 o ts Wd) [iv k]) (S208 o ts Wd) = some (!decide (t ∈ ts.take k), S208 o ts Wd) := by
  refine tr_cmp (L := lv (m + 8)) (e := j1) rfl (sh_at (L := lv (m + 7)) (e := eL j1) rfl (by kernel_rfl) (by kernel_rfl) hk) (b := .list (strL (ts.take k))) (σ2 := S208 o ts Wd) ?_ notin_str
  have h := slc_take (k := k) (vs := strL ts) (σ := S208 o ts Wd)
  rw [show (strL ts).take k = strL (ts.take k) from (List.map_take ..).symm] at h
  exact ev_slc (L := lv (m + 7)) (e := eR j1) (by kernel_rfl) (by kernel_rfl) (l := none) (by kernel_rfl) (h := some (k : Int)) (by kernel_rfl) (s := none) (by kernel_rfl) h
 refine (turn_if (fr1 := cf1 e1 (F208 x y z) (S208 o ts Wd) [iv k]) (by kernel_rfl) (Eq.trans (b := tests (lv (m + 9)) [j1] (cf1 e1 (F208 x y z) (S208 o ts Wd) [iv k]) (S208 o ts Wd)) (by kernel_rfl) (tests_one ht)) (mOf (sh_at (L := lv (m + 8)) (e := eL e1) rfl (by kernel_rfl) (by kernel_rfl) hk))).trans ?_
 rw [if_not]
 by_cases h : t ∈ ts.take k
 ·rw [if_pos h, if_pos h]; rfl
 ·rw [if_neg h, if_neg h]; rfl
theorem sh_unl : ∀ (r pre : List Str), ts = pre ++ r -> turns noChk (turn1 (lv (m + 9)) g1 (cfr e1 (F208 x y z) (S208 o ts Wd)) (emitL (lv (m + 9)) e1)) ((List.range' pre.length r.length).map iv) (S208 o ts Wd) = some (strL (unlA pre r), S208 o ts Wd) := by
 intro r
 induction r with
 | nil => exact fun _ _ => rfl
 | cons t r ih =>
  intro pre h
  have hk : ts[pre.length]? = some t := by rw [h, List.getElem?_append_right (Nat.le_refl _), Nat.sub_self]; rfl
  have ht := sh_unl1 (m := m) (o := o) (Wd := Wd) (x := x) (y := y) (z := z) hk
  rw [show ts.take pre.length = pre by rw [h, List.take_left]] at ht
  have hi := ih (pre ++ [t]) (by rw [h, List.append_assoc]; rfl)
  rw [List.length_append] at hi
  refine bindR ht (bindR hi ?_)
  show some (strL _ ++ strL _, _) = some (strL ((if t ∈ pre then [] else [t]) ++ unlA (pre ++ [t]) r), _)
  unfold strL
  rw [List.map_append]
theorem sh_unlike (hl : ts.length <= 100) : exStep (lv (m + 11)) (b208 1) (F208 x none none) (S208 o ts Wd) = some ((.next, F208 x (some (.list (strL (unlA [] ts)))) none), S208 o ts Wd) := by
 have hi : iterSrcC (lv (m + 11)) g1.target g1.iter (F208 x none none) (S208 o ts Wd) = some ((it ts.length, noChk), S208 o ts Wd) := by
  refine it_rngC rfl ?_ (by lia)
  rw [<- strL_len ts]
  exact ev_call (L := lv (m + 10)) (e := g1.iter) (a := .con (.type "range")) (σ1 := S208 o ts Wd) rfl (by kernel_rfl) rfl (evs1 (es := eA g1.iter) rfl (ev_call (L := lv (m + 9)) (e := eAt (eA g1.iter) 0) (a := .con (.builtin "len")) (σ1 := S208 o ts Wd) (vs := [.list (strL ts)]) (σ2 := S208 o ts Wd) rfl (by kernel_rfl) rfl (by kernel_rfl) (len_call (m := m + 8)))) (rng_call (m := m + 9))
 have h1 : evA (lv (m + 11)) (sE (b208 1)) (F208 x none none) (S208 o ts Wd) = some (.list (strL (unlA [] ts)), S208 o ts Wd) :=
  ev_lcT (L := lv (m + 11)) (e := e1) rfl (by kernel_rfl) (chk := noChk) (items := it ts.length) hi (σ3 := S208 o ts Wd) (by kernel_rfl) (sh_unl (m := m + 2) ts [] rfl) (decide_eq_true (show _ <= lim by rw [strL_len]; exact Nat.le_trans (unlA_len _ _) (Nat.le_trans hl (by decide)))) (sSL _) List.take_length
 exact st_as rfl h1 (by kernel_rfl)
theorem sh_table (hW : TabOk Wd W S ts) (hl : ts.length <= 100) (hS : ∀ t ∈ ts, (S t).natAbs < big) : exStep (lv (m + 11)) (b208 2) (F208 x (some (.list (strL (unlA [] ts)))) none) (S208 o ts Wd) = some ((.next, F208 x (some (.list (strL (unlA [] ts)))) (some (.list ((tabP S ts (unlA [] ts)).map itemV)))), S208 o ts Wd) := by
 have ht := tPu (chk := noChk) (σ := S208 o ts Wd) (f := turn1 (lv (m + 11)) (eG1 e2 0) (cfr e2 (F208 x (some (.list (strL (unlA [] ts)))) none) (S208 o ts Wd)) (emitL (lv (m + 11)) e2)) (t := V.str) (w := fun t => [itemV (t, S t * (ts.count t : Nat))]) (vs := unlA [] ts) rfl fun t ht => by
  have hm := unlA_mem _ _ _ ht
  refine tGo (fr1 := cf1 e2 (F208 x (some (.list (strL (unlA [] ts)))) none) (S208 o ts Wd) [.str t]) (by kernel_rfl) rfl (mOf (ev_tup (L := lv (m + 10)) (e := eL e2) rfl (evs2 (es := eA (eL e2)) (a := .str t) (σ1 := S208 o ts Wd) (b := .int (S t * (ts.count t : Nat))) (σ2 := S208 o ts Wd) rfl (by kernel_rfl) ?_) rfl))
  have h1 : (lv (m + 8)).ev (eL (eL (eAt (eA (eL e2)) 1))) (cf1 e2 (F208 x (some (.list (strL (unlA [] ts)))) none) (S208 o ts Wd) [.str t]) (S208 o ts Wd) = some (.dict [(t, .int (S t))], S208 o ts Wd) :=
   ev_sub (L := lv (m + 7)) (e := eL (eL (eAt (eA (eL e2)) 1))) rfl (ev_sub (L := lv (m + 6)) (e := eL (eL (eL (eAt (eA (eL e2)) 1)))) (a := .dict Wd) (b := .str t) (σ1 := S208 o ts Wd) (σ2 := S208 o ts Wd) rfl (by kernel_rfl) (by kernel_rfl) (dict_get (hW t hm))) (b := .int 4) (σ2 := S208 o ts Wd) (by kernel_rfl) rfl
  have h2 : (lv (m + 9)).ev (eL (eAt (eA (eL e2)) 1)) (cf1 e2 (F208 x (some (.list (strL (unlA [] ts)))) none) (S208 o ts Wd) [.str t]) (S208 o ts Wd) = some (.int (S t), S208 o ts Wd) :=
   ev_sub (L := lv (m + 8)) (e := eL (eAt (eA (eL e2)) 1)) rfl h1 (b := .str t) (σ2 := S208 o ts Wd) (by kernel_rfl) (dict_get (by rw [lkp_cons, if_pos rfl]))
  have h3 : (lv (m + 9)).ev (eR (eAt (eA (eL e2)) 1)) (cf1 e2 (F208 x (some (.list (strL (unlA [] ts)))) none) (S208 o ts Wd) [.str t]) (S208 o ts Wd) = some (.int (ts.count t : Nat), S208 o ts Wd) :=
   ev_meth (L := lv (m + 8)) (e := eR (eAt (eA (eL e2)) 1)) (a := .list (strL ts)) (σ1 := S208 o ts Wd) (t := .bi "list.count") rfl (by kernel_rfl) (by kernel_rfl) (vs := [.str t]) (σ2 := S208 o ts Wd) (by kernel_rfl) count_str
  refine ev_bin (L := lv (m + 9)) (e := eAt (eA (eL e2)) 1) rfl h2 h3 (bindR (a := ((ts.count t : Nat) : Int)) (σ1 := S208 o ts Wd) rfl (bindR (guardE (decide_eq_true ⟨hS t hm, lt_big ?_⟩)) rfl))
  have := List.count_le_length (a := t) (l := ts)
  lia
 have hm : ((unlA [] ts).flatMap fun t => [itemV (t, S t * (ts.count t : Nat))]) = (tabP S ts (unlA [] ts)).map itemV := by unfold tabP; rw [List.map_map]; exact flat_one _
 rw [hm] at ht
 have h1 : evA (lv (m + 11)) (sE (b208 2)) (F208 x (some (.list (strL (unlA [] ts)))) none) (S208 o ts Wd) = some (.list ((tabP S ts (unlA [] ts)).map itemV), S208 o ts Wd) :=
  ev_lcT (L := lv (m + 11)) (e := e2) rfl (by kernel_rfl) (chk := noChk) (items := strL (unlA [] ts)) (by kernel_rfl) (σ3 := S208 o ts Wd) (by kernel_rfl) ht (decide_eq_true (show _ <= lim by
   unfold tabP
   rw [List.length_map, List.length_map]; exact Nat.le_trans (unlA_len _ _) (Nat.le_trans hl (by decide)))) (tab_simple _) List.take_length
 exact st_as rfl h1 (by kernel_rfl)
noncomputable def e178 : Expr := eAt (eA (eAt (eA (eR e3)) 1)) 0
theorem call_share (hW : TabOk Wd W S ts) (hl : ts.length <= 100) (hS : ∀ t ∈ ts, (S t).natAbs < big) : (lv (m + 16)).call b (.con (.ref 208)) [.list (strL ts), .dict Wd] (SO 34 o) = some (shareV W S ts, SO 34 o) := by
 rw [call_fn (m := m + 15) rfl rfl rfl]
 refine Eq.trans (b := (exL (lv (m + 14)) [b208 0, b208 1, b208 2, b208 3] (F208 none none none) >>= fun r => endFn false (SO 34 o) (flV r.1)) (S208 o ts Wd)) (by kernel_rfl) ?_
 have ht := tPu (chk := noChk) (σ := S208 o ts Wd) (f := turn1 (lv (m + 10)) (eG1 e178 0) (cfr e178 (F208 (some (sm4 W ts)) (some (.list (strL (unlA [] ts)))) (some (.list ((tabP S ts (unlA [] ts)).map itemV)))) (S208 o ts Wd)) (emitL (lv (m + 10)) e178)) (t := itemV) (w := fun p => [V.int p.2]) (vs := tabP S ts (unlA [] ts)) rfl fun p hp =>
  tGo (fr1 := cf1 e178 (F208 (some (sm4 W ts)) (some (.list (strL (unlA [] ts)))) (some (.list ((tabP S ts (unlA [] ts)).map itemV)))) (S208 o ts Wd) [.str p.1, .int p.2]) (by kernel_rfl) rfl (mOf (by kernel_rfl))
 rw [flat_one, <- intsum] at ht
 have h1 := ev_lcT (L := lv (m + 10)) (e := e178) rfl (by kernel_rfl) (chk := noChk) (items := (tabP S ts (unlA [] ts)).map itemV) (fr := F208 (some (sm4 W ts)) (some (.list (strL (unlA [] ts)))) (some (.list ((tabP S ts (unlA [] ts)).map itemV)))) (σ := S208 o ts Wd) (by kernel_rfl) (σ3 := S208 o ts Wd) (by kernel_rfl) ht (decide_eq_true (show _ <= lim by
   unfold tabP
   rw [List.length_map, List.length_map, List.length_map]; exact Nat.le_trans (unlA_len _ _) (Nat.le_trans hl (by decide)))) (sMp (fun _ => rfl) _) (σ2 := S208 o ts Wd) List.take_length
 have h2 := ev_call (L := lv (m + 11)) (e := eAt (eA (eR e3)) 1) (a := .con (.builtin "sum")) (σ := S208 o ts Wd) (σ1 := S208 o ts Wd) (fr := F208 (some (sm4 W ts)) (some (.list (strL (unlA [] ts)))) (some (.list ((tabP S ts (unlA [] ts)).map itemV)))) rfl (by kernel_rfl) rfl (evs1 rfl h1) (call_sum (m := m + 10))
 have h3 : (lv (m + 14)).ev e3 (F208 (some (sm4 W ts)) (some (.list (strL (unlA [] ts)))) (some (.list ((tabP S ts (unlA [] ts)).map itemV)))) (S208 o ts Wd) = some (shareV W S ts, S208 o ts Wd) :=
  ev_bin (L := lv (m + 13)) (e := e3) (a := sm4 W ts) (σ1 := S208 o ts Wd) rfl (by kernel_rfl) (ev_tup (L := lv (m + 12)) (e := eR e3) rfl (evs2 (es := eA (eR e3)) (a := .list ((tabP S ts (unlA [] ts)).map itemV)) (σ1 := S208 o ts Wd) rfl (by kernel_rfl) h2) rfl) rfl
 refine bindR (xNx (sh_sums (m := m + 2) hW hl) (xNx (sh_unlike (m := m + 3) hl) (xNx (sh_table (m := m + 3) hW hl hS) (exL_ret (bindR (liftE rfl) (bindR h3 rfl)))))) (endF (b := 0) ?_ (by kernel_rfl))
 refine if_pos ?_
 show (V.simples ((tabP S ts (unlA [] ts)).map itemV) && (true && true)) = true
 rw [tab_simple]; rfl
end
noncomputable def lot3 (line : List Str) (ds : Nat -> List (Str × Int)) (k : Nat) : List Str := lotL line (ds k) ++ lotL line (ds (prv4 k)) ++ lotL line (ds k)
noncomputable def lot3V (line : List Str) (ds : Nat -> List (Str × Int)) (k : Nat) : V := .list (strL (lot3 line ds k))
theorem lot3_simple (line : List Str) (ds : Nat -> List (Str × Int)) (k : Nat) : (lot3V line ds k).simple = true := sSL (lot3 line ds k)
theorem lot3s_simple (line : List Str) (ds : Nat -> List (Str × Int)) : V.simples (i4.map (lot3V line ds)) = true := sMp (lot3_simple line ds) i4
noncomputable def allL (line : List Str) (ds : Nat -> List (Str × Int)) : List (List Str) := i4.map (fun k => lotL line (ds k)) ++ i4.map (lot3 line ds)
noncomputable def strV' (l : List Str) : V := .list (strL l)
theorem strL_app (a b : List Str) : strL a ++ strL b = strL (a ++ b) := List.map_append.symm
theorem lot_len {line : List Str} {d : List (Str × Int)} : (lotL line d).length <= line.length := List.length_filter_le ..
theorem lot_mem {line : List Str} {d : List (Str × Int)} : ∀ t ∈ lotL line d, t ∈ line := fun t h => (List.mem_filter.mp h).1
theorem allL_ok {line : List Str} {ds : Nat -> List (Str × Int)} : ∀ l ∈ allL line ds, l.length <= 3 * line.length /\ ∀ t ∈ l, t ∈ line := fun l hl => by
 rcases List.mem_append.mp hl with hl | hl
 ·obtain ⟨k, hk, rfl⟩ := List.mem_map.mp hl
  exact ⟨Nat.le_trans lot_len (Nat.le_mul_of_pos_left _ (by decide)), lot_mem⟩
 ·obtain ⟨k, hk, rfl⟩ := List.mem_map.mp hl
  unfold lot3
  refine ⟨?_, fun t ht => ?_⟩
  ·rw [List.length_append, List.length_append]
   have h1 := lot_len (line := line) (d := ds k)
   have h2 := lot_len (line := line) (d := ds (prv4 k))
   lia
  ·rcases List.mem_append.mp ht with ht | ht
   ·rcases List.mem_append.mp ht with ht | ht
    ·exact lot_mem t ht
    ·exact lot_mem t ht
   ·exact lot_mem t ht
theorem share_simple (W : Str -> Nat -> Int) (S : Str -> Int) (l : List Str) : (shareV W S l).simple = true := by
 show (V.simples ((tabP S l (unlA [] l)).map itemV) && (true && true)) = true
 rw [tab_simple]; rfl
theorem share_deps (W : Str -> Nat -> Int) (S : Str -> Int) (l : List Str) : (shareV W S l).dep 20 = true := by
 show (V.deps ((tabP S l (unlA [] l)).map itemV) 18 && (true && true)) = true
 rw [deps_map (fun _ => rfl)]; rfl
theorem ne_selfD {d : List (Str × V)} {σ : List O} (h1 : V.simpled d = true) (h2 : V.depTd d 20 = true) : cmp .NotEq (.dict d) (.dict d) σ = some (false, σ) := by
 refine bindR (liftE (a := true) ?_) rfl
 show (if V.beqd d d && V.depTd d 20 then some true else none) = some true
 rw [beqd_refl' d h1, h2]; rfl
section
variable {m k : Nat} {c : Nat -> Int} {a : V} {us pq : List Nat} {sn : List (Nat -> Nat -> Int)} {sh : Nat -> Nat -> Int} {ds : Nat -> List (Str × Int)} {w : Nat -> Int} {d : List (Str × Int)}
noncomputable def t27 (a : V) (c : Nat -> Int) (us pq : List Nat) (sn : List (Nat -> Nat -> Int)) (sh : Nat -> Nat -> Int) (ds : Nat -> List (Str × Int)) : List O := ST true (c27 a c us sn sh ds) (os21 c (pq.map ppV) sh ds)
theorem t27_so : t27 a c us pq sn sh ds = SO 34 (oOf (t27 a c us pq sn sh ds)) := by kernel_rfl
noncomputable def y28 : Expr := eAt (eA (sT (s213 28))) 0
noncomputable def r28 : Expr := eR y28
noncomputable def b28 : Expr := (eG1 r28 0).iter
noncomputable def j28 : Expr := eR b28
theorem j28_ev : (lv 114).ev j28 (fr213 (l25 c k sh ds)) (t27 a c us pq sn sh ds) = some (.list (i4.map (lot3V (lineL c) ds)), t27 a c us pq sn sh ds) := by
 have ht := tPu (chk := noChk) (σ := t27 a c us pq sn sh ds) (f := turn1 (lv 113) (eG1 j28 0) (cfr j28 (fr213 (l25 c k sh ds)) (t27 a c us pq sn sh ds)) (emitL (lv 113) j28)) (t := iv) (w := fun j => [lot3V (lineL c) ds j]) (vs := i4) rfl fun j hj => by
  have hj := mem4.mp hj
  refine tGo (fr1 := cf1 j28 (fr213 (l25 c k sh ds)) (t27 a c us pq sn sh ds) [iv j]) (by kernel_rfl) rfl (mOf ?_)
  have h1 := en (f := fun j => (lv 111).ev (eL (eL (eL j28))) (cf1 j28 (fr213 (l25 c k sh ds)) (t27 a c us pq sn sh ds) [iv j]) (t27 a c us pq sn sh ds)) (g := fun j => some (lotV (lineL c) ds j, t27 a c us pq sn sh ds)) (n := 4) (by kernel_rfl) j hj
  have h2 := en (f := fun j => (lv 111).ev (eR (eL (eL j28))) (cf1 j28 (fr213 (l25 c k sh ds)) (t27 a c us pq sn sh ds) [iv j]) (t27 a c us pq sn sh ds)) (g := fun j => some (lotV (lineL c) ds (prv4 j), t27 a c us pq sn sh ds)) (n := 4) (by kernel_rfl) j hj
  have h3 := en (f := fun j => (lv 112).ev (eR (eL j28)) (cf1 j28 (fr213 (l25 c k sh ds)) (t27 a c us pq sn sh ds) [iv j]) (t27 a c us pq sn sh ds)) (g := fun j => some (lotV (lineL c) ds j, t27 a c us pq sn sh ds)) (n := 4) (by kernel_rfl) j hj
  have n1 := lot_len (line := lineL c) (d := ds j)
  have n2 := lot_len (line := lineL c) (d := ds (prv4 j))
  rw [line_len] at n1 n2
  have h4 := ev_bin (L := lv 111) (e := eL (eL j28)) rfl h1 h2 (add_lists (by rw [strL_len, strL_len]; lia))
  have h5 := ev_bin (L := lv 112) (e := eL j28) rfl h4 h3 (add_lists (by rw [List.length_append, strL_len, strL_len]; lia))
  rw [strL_app, strL_app] at h5
  exact h5
 rw [flat_one] at ht
 exact ev_lcT (L := lv 113) (e := j28) rfl (by kernel_rfl) (chk := noChk) (items := i4.map iv) (by kernel_rfl) (σ3 := t27 a c us pq sn sh ds) (by kernel_rfl) ht (by kernel_rfl) (lot3s_simple _ _) List.take_length
theorem r28_ev (hS : ∀ t ∈ nameL, (Sf c t).natAbs < big) : (lv 116).ev r28 (fr213 (l25 c k sh ds)) (t27 a c us pq sn sh ds) = some (.list ((allL (lineL c) ds).map (shareV (Wf c) (Sf c))), t27 a c us pq sn sh ds) := by
 have hb : (lv 115).ev b28 (fr213 (l25 c k sh ds)) (t27 a c us pq sn sh ds) = some (.list ((allL (lineL c) ds).map strV'), t27 a c us pq sn sh ds) := by
  refine (ev_bin (L := lv 114) (e := b28) rfl (a := lotsV (lineL c) ds) (σ1 := t27 a c us pq sn sh ds) (by kernel_rfl) j28_ev (add_lists (by show 4 + 4 <= 100000; decide))).trans ?_
  unfold allL
  rw [List.map_append]; rfl
 have hi : iterSrcC (lv 115) (eG1 r28 0).target b28 (fr213 (l25 c k sh ds)) (t27 a c us pq sn sh ds) = some (((allL (lineL c) ds).map strV', noChk), t27 a c us pq sn sh ds) :=
  Eq.trans (b := ((lv 115).ev b28 (fr213 (l25 c k sh ds)) >>= itOfC) (t27 a c us pq sn sh ds)) (by kernel_rfl) (bindR hb (by kernel_rfl))
 have ht := tPu (chk := noChk) (σ := t27 a c us pq sn sh ds) (f := turn1 (lv 115) (eG1 r28 0) (cfr r28 (fr213 (l25 c k sh ds)) (t27 a c us pq sn sh ds)) (emitL (lv 115) r28)) (t := strV') (w := fun l => [shareV (Wf c) (Sf c) l]) (vs := allL (lineL c) ds) rfl fun l hl => by
  obtain ⟨h1, h2⟩ := allL_ok l hl
  rw [line_len] at h1
  refine tGo (fr1 := cf1 r28 (fr213 (l25 c k sh ds)) (t27 a c us pq sn sh ds) [strV' l]) (by kernel_rfl) rfl (mOf ?_)
  refine ev_call (L := lv 114) (e := eL r28) (a := .con (.ref 208)) (σ1 := t27 a c us pq sn sh ds) rfl (by kernel_rfl) rfl (vs := [.list (strL l), .dict (wtab c 6)]) (σ2 := t27 a c us pq sn sh ds) (by kernel_rfl) ?_
  have h := call_share (m := 98) (b := (cf1 r28 (fr213 (l25 c k sh ds)) (t27 a c us pq sn sh ds) [strV' l]).base) (o := oOf (t27 a c us pq sn sh ds)) (Wd := wtab c 6) (W := Wf c) (S := Sf c) (ts := l) (fun t ht => tab_ok c t (line_mem c t (h2 t ht))) (by lia) fun t ht => hS t (line_mem c t (h2 t ht))
  rw [<- t27_so] at h
  exact h
 rw [flat_one] at ht
 exact ev_lcT (L := lv 115) (e := r28) rfl (by kernel_rfl) (chk := noChk) hi (σ3 := t27 a c us pq sn sh ds) (by kernel_rfl) ht (by kernel_rfl) (sMp (share_simple _ _) _) List.take_length
theorem x28 (hS : ∀ t ∈ nameL, (Sf c t).natAbs < big) (he : (allS sh ds).map tellP = (allL (lineL c) ds).map (shareV (Wf c) (Sf c))) : Step 28 (l25 c k sh ds) (c27 a c us sn sh ds) true (os21 c (pq.map ppV) sh ds) (l25 c k sh ds) (c27 a c us sn sh ds) true (os21 c (pq.map ppV) sh ds) := by
 have h1 : (lv 116).ev (eL y28) (fr213 (l25 c k sh ds)) (t27 a c us pq sn sh ds) = some (toldV sh ds, t27 a c us pq sn sh ds) := by kernel_rfl
 unfold toldV at h1
 rw [he] at h1
 have g1 : (lv 117).tr y28 (fr213 (l25 c k sh ds)) (t27 a c us pq sn sh ds) = some (false, t27 a c us pq sn sh ds) :=
  tr_cmp (L := lv 116) (e := y28) rfl h1 (r28_ev hS) (ne_self (sMp (share_simple _ _) _) (deps_map (share_deps _ _) _))
 have g2 : (lv 117).tr (eAt (eA (sT (s213 28))) 1) (fr213 (l25 c k sh ds)) (t27 a c us pq sn sh ds) = some (false, t27 a c us pq sn sh ds) :=
  tr_cmp (L := lv 116) (e := eAt (eA (sT (s213 28))) 1) (a := .dict (wtab c 6)) (b := .dict (wtab c 6)) (σ1 := t27 a c us pq sn sh ds) (σ2 := t27 a c us pq sn sh ds) rfl (by kernel_rfl) (by kernel_rfl) (ne_selfD (by kernel_rfl) (by kernel_rfl))
 exact st_no (n := 117) rfl rfl (tr_or (L := lv 117) (e := sT (s213 28)) (by kernel_rfl) g1 g2)
end
noncomputable def flatL (line : List Str) (ds : Nat -> List (Str × Int)) : List Str := i4.flatMap fun k => lotL line (ds k)
theorem strsOf_strL : ∀ l : List Str, strsOf (strL l) = some l
 | [] => rfl
 | s :: l => by
  show (strsOf (strL l)).map (s :: ·) = _
  rw [strsOf_strL l]; rfl
theorem sorted_strL {m b : Nat} {l : List Str} {σ : List O} (hl : l.length <= 60) (hq : ∀ s ∈ l, isQ s = false) : (lv (m + 1)).call b (.con (.builtin "sorted")) [.list (strL l)] σ = some (.list (strL (sortS l)), σ) := by
 refine Eq.trans (b := ((match strsOf (strL l) with
  | some ss => do guardM (decide ((strL l).length <= 60) && ss.all fun s => !isQ s); pure (.list ((sortS ss).map .str))
  | Option.none => rowsSort (strL l)) : M V) σ) (by kernel_rfl) ?_
 rw [strsOf_strL]
 refine bindR (guardE ?_) rfl
 rw [strL_len, decide_eq_true hl, List.all_eq_true.mpr fun s hs => by rw [hq s hs]; rfl]; rfl
theorem ev_lcGT {L : Lv} {e : Expr} {fr : Fr} {σ σ1 σ2 σ3 : List O} {items vs : List V} {chk : Chk} (h : isLcG e = true) (hk : (eKp e, eMt e) = (false, false)) (hi : iterSrcC L (eG1 e 0).target (eG1 e 0).iter fr σ = some ((items, chk), σ)) (hc : (takenC fr (eS e).names []).bind (fun cl => (mkCells (eS e).names cl σ).map (·.2)) = some σ3)
  (ht : compG L (emitL L e) (eG1 e 0) (eG e).tail (items, chk) (cfr e fr σ) σ3 = some (vs, σ1)) (hl : decide (vs.length <= lim) = true) (hs : V.simples vs = true) (hT : σ1.take σ.length = σ2) : evStep L e fr σ = some (.list vs, σ2) := hT ▸ ev_lcG h hk hi hc ht hl hs
section
variable {m k : Nat} {c : Nat -> Int} {a : V} {us pq : List Nat} {sn : List (Nat -> Nat -> Int)} {sh : Nat -> Nat -> Int} {ds : Nat -> List (Str × Int)} {w : Nat -> Int} {d : List (Str × Int)}
noncomputable def l29 : Expr := eAt (eA (eL (sT (s213 29)))) 0
theorem flat_strL {α : Type} (f : α -> List Str) : ∀ l : List α, (l.flatMap fun k => strL (f k)) = strL (l.flatMap f)
 | [] => rfl
 | x :: l => by
  rw [List.flatMap_cons, List.flatMap_cons, flat_strL f l, strL_app]
theorem l29_ev : (lv 116).ev l29 (fr213 (l25 c k sh ds)) (t27 a c us pq sn sh ds) = some (.list (strL (flatL (lineL c) ds)), t27 a c us pq sn sh ds) := by
 have ht := tPu (chk := noChk) (σ := t27 a c us pq sn sh ds) (f := turn1 (lv 115) (eG1 l29 0) (cfr l29 (fr213 (l25 c k sh ds)) (t27 a c us pq sn sh ds)) fun fr' => do let it' <- iterSrcC (lv 115) (eG1 l29 1).target (eG1 l29 1).iter fr'; turns it'.2 (turn1 (lv 115) (eG1 l29 1) fr' (emitL (lv 115) l29)) it'.1) (t := strV') (w := strL) (vs := i4.map fun k => lotL (lineL c) (ds k)) rfl fun l hl => by
  refine tGo (fr1 := cf1 l29 (fr213 (l25 c k sh ds)) (t27 a c us pq sn sh ds) [strV' l]) (by kernel_rfl) rfl (bindR (a := (strL l, noChk)) (σ1 := t27 a c us pq sn sh ds) (by kernel_rfl) ?_)
  have h := tPu (chk := noChk) (σ := t27 a c us pq sn sh ds) (f := turn1 (lv 115) (eG1 l29 1) (cf1 l29 (fr213 (l25 c k sh ds)) (t27 a c us pq sn sh ds) [strV' l]) (emitL (lv 115) l29)) (t := V.str) (w := fun t => [V.str t]) (vs := l) rfl fun t ht =>
   tGo (fr1 := cf1 l29 (fr213 (l25 c k sh ds)) (t27 a c us pq sn sh ds) [strV' l, .str t]) (by kernel_rfl) rfl (mOf (by kernel_rfl))
  rw [flat_one] at h
  exact h
 have e : ((i4.map fun k => lotL (lineL c) (ds k)).flatMap strL) = strL (flatL (lineL c) ds) := by rw [List.flatMap_map]; exact flat_strL _ i4
 rw [e] at ht
 refine ev_lcGT (L := lv 115) (e := l29) (by kernel_rfl) (by kernel_rfl) (chk := noChk) (items := (i4.map fun k => lotL (lineL c) (ds k)).map strV') (by kernel_rfl) (σ3 := t27 a c us pq sn sh ds) (by kernel_rfl) (cg2 (by kernel_rfl) ht) (decide_eq_true (show _ <= lim from ?_)) (sSL _) List.take_length
 rw [strL_len]
 show (lotL (lineL c) (ds 0) ++ (lotL (lineL c) (ds 1) ++ (lotL (lineL c) (ds 2) ++ (lotL (lineL c) (ds 3) ++ [])))).length <= 100000
 rw [List.append_nil, List.length_append, List.length_append, List.length_append]
 have h := fun k => lot_len (line := lineL c) (d := ds k)
 have h0 := h 0
 have h1 := h 1
 have h2 := h 2
 have h3 := h 3
 rw [line_len] at h0 h1 h2 h3
 lia
theorem x29 (hp : (flatL (lineL c) ds).Perm nameL) : Step 29 (l25 c k sh ds) (c27 a c us sn sh ds) true (os21 c (pq.map ppV) sh ds) (l25 c k sh ds) (c27 a c us sn sh ds) true (os21 c (pq.map ppV) sh ds) := by
 have h1 := ev_call (L := lv 116) (e := eL (sT (s213 29))) (a := .con (.builtin "sorted")) (σ := t27 a c us pq sn sh ds) (σ1 := t27 a c us pq sn sh ds) (fr := fr213 (l25 c k sh ds)) rfl (by kernel_rfl) rfl (evs1 rfl l29_ev) (sorted_strL (m := 115) (by rw [hp.length_eq]; decide) fun s hs => nm_q s (hp.mem_iff.mp hs))
 rw [sortS_perm hp] at h1
 have h2 := ev_call (L := lv 116) (e := eR (sT (s213 29))) (a := .con (.builtin "sorted")) (σ := t27 a c us pq sn sh ds) (σ1 := t27 a c us pq sn sh ds) (fr := fr213 (l25 c k sh ds)) (vs := [namesV]) (σ2 := t27 a c us pq sn sh ds) rfl (by kernel_rfl) rfl (by kernel_rfl) (sorted_strL (m := 115) (l := nameL) (by decide) nm_q)
 exact st_no (n := 117) rfl rfl (tr_cmp (L := lv 117) (e := sT (s213 29)) rfl h1 h2 (ne_self (sSL _) (deps_strL _ _)))
end
noncomputable def bes (sh : Nat -> Nat -> Int) (i j : Nat) : V := .int (cmpC [(i, ((i + 1 : Nat) : Int))] (sh j) (sh i))
noncomputable def besL (sh : Nat -> Nat -> Int) : List V := (List.range' 0 4).flatMap fun i => (List.range' 0 4).flatMap fun j => [bes sh i j]
theorem lc44 {L : Lv} {e : Expr} {fr : Fr} {σ : List O} {sh : Nat -> Nat -> Int} (h : isLcG e = true) (hk : (eKp e, eMt e) = (false, false)) (hi : iterSrcC L (eG1 e 0).target (eG1 e 0).iter fr σ = some ((it 4, noChk), σ)) (hc : (takenC fr (eS e).names []).bind (fun cl => (mkCells (eS e).names cl σ).map (·.2)) = some σ)
  (hg : (eG e).tail = [eG1 e 1]) (hn : (notSet (eG1 e 1).iter && ((eG1 e 0).ifs.isEmpty && (eG1 e 1).ifs.isEmpty)) = true)
  (h1 : ∀ i, i < 4 -> asgC (eG1 e 0).target (iv i) (cfr e fr σ) σ = some (cf1 e fr σ [iv i], σ) /\ iterSrcC L (eG1 e 1).target (eG1 e 1).iter (cf1 e fr σ [iv i]) σ = some ((it 4, noChk), σ))
  (h2 : ∀ i, i < 4 -> ∀ j, j < 4 -> asgC (eG1 e 1).target (iv j) (cf1 e fr σ [iv i]) σ = some (cf1 e fr σ [iv i, iv j], σ) /\ L.ev (eL e) (cf1 e fr σ [iv i, iv j]) σ = some (bes sh i j, σ)) : evStep L e fr σ = some (.list (besL sh), σ) := by
 rw [Bool.and_eq_true, Bool.and_eq_true] at hn
 refine ev_lcGT h hk hi hc (σ1 := σ) ?_ rfl rfl List.take_length
 rw [hg]
 refine cg2 hn.1 (turns_n (S := fun _ => σ) (w := fun i => (List.range' 0 4).flatMap fun j => [bes sh i j]) fun i hi => ?_)
 obtain ⟨a1, a2⟩ := h1 i hi
 refine tGo a1 (List.isEmpty_iff.mp hn.2.1) (bindR a2 (turns_n (S := fun _ => σ) (w := fun j => [bes sh i j]) fun j hj => ?_))
 obtain ⟨b1, b2⟩ := h2 i hi j hj
 exact tGo b1 (List.isEmpty_iff.mp hn.2.2) (mOf b2)
section
variable {m k : Nat} {c : Nat -> Int} {a : V} {us pq : List Nat} {sn : List (Nat -> Nat -> Int)} {sh : Nat -> Nat -> Int} {ds : Nat -> List (Str × Int)} {w : Nat -> Int} {d : List (Str × Int)}
noncomputable def l30 (c : Nat -> Int) (k : Nat) (sh : Nat -> Nat -> Int) (ds : Nat -> List (Str × Int)) : List V := l25 c k sh ds ++ [.list (besL sh)]
theorem hd4_get {j : Nat} {σ : List O} (hj : j < 4) : getItem (.list (hd4 sh ds)) (iv j) σ = some (ent (sh j) (dv (ds j)), σ) := en (f := fun j => getItem (.list (hd4 sh ds)) (iv j) σ) (g := fun j => some (ent (sh j) (dv (ds j)), σ)) (n := 4) (by kernel_rfl) j hj
noncomputable def G30 (c : Nat -> Int) (k : Nat) (a : V) (us pq : List Nat) (sn : List (Nat -> Nat -> Int)) (sh : Nat -> Nat -> Int) (ds : Nat -> List (Str × Int)) (vs : List V) : Fr := cf1 (lcE 30) (fr213 (l25 c k sh ds)) (t27 a c us pq sn sh ds) vs
theorem x30 : Step 30 (l25 c k sh ds) (c27 a c us sn sh ds) true (os21 c (pq.map ppV) sh ds) (l30 c k sh ds) (c27 a c us sn sh ds) true (os21 c (pq.map ppV) sh ds) := by
 have h : evA (lv 118) (lcE 30) (fr213 (l25 c k sh ds)) (t27 a c us pq sn sh ds) = some (.list (besL sh), t27 a c us pq sn sh ds) := by
  refine lc44 (L := lv 118) (e := lcE 30) (by kernel_rfl) (by kernel_rfl) (by kernel_rfl) (by kernel_rfl) (by kernel_rfl) (by kernel_rfl) (fun i _ => ⟨by kernel_rfl, by kernel_rfl⟩) fun i hi j hj => ⟨by kernel_rfl, ?_⟩
  have e1 := ev_sub (L := lv 116) (e := eAt (eA (eL (lcE 30))) 0) (fr := G30 c k a us pq sn sh ds [iv i, iv j]) (a := .list (hd4 sh ds)) (b := iv j) (σ := t27 a c us pq sn sh ds) (σ1 := t27 a c us pq sn sh ds) (σ2 := t27 a c us pq sn sh ds) rfl (by kernel_rfl) (by kernel_rfl) (hd4_get hj)
  have e2 := ev_sub (L := lv 116) (e := eAt (eA (eL (lcE 30))) 1) (fr := G30 c k a us pq sn sh ds [iv i, iv j]) (a := .list (hd4 sh ds)) (b := iv i) (σ := t27 a c us pq sn sh ds) (σ1 := t27 a c us pq sn sh ds) (σ2 := t27 a c us pq sn sh ds) rfl (by kernel_rfl) (by kernel_rfl) (hd4_get hi)
  have e0 := en (f := fun i => (lv 117).ev (eL (eL (eL (lcE 30)))) (G30 c k a us pq sn sh ds [iv i, iv j]) (t27 a c us pq sn sh ds)) (g := fun i => some (.inst 38 (30 + i), t27 a c us pq sn sh ds)) (n := 4) (by kernel_rfl) i hi
  have e3 := en (f := fun i => methTag (.inst 38 (30 + i)) (eX (eL (eL (lcE 30)))) (t27 a c us pq sn sh ds)) (g := fun i => some (.fn 35, t27 a c us pq sn sh ds)) (n := 4) (by kernel_rfl) i hi
  have e4 := en (f := fun i => (t27 a c us pq sn sh ds)[30 + i]?) (g := fun i => some (compO ([(i, ((i + 1 : Nat) : Int))].map colV))) (n := 4) (by kernel_rfl) i hi
  exact ev_meth (L := lv 117) (e := eL (lcE 30)) rfl e0 e3 (evs2 rfl e1 e2) (call_cmp (m := 110) e4 fun p hp => by rw [List.mem_singleton.mp hp]; exact hi)
 exact st_as rfl h (by kernel_rfl)
noncomputable def r31 : Expr := eR (sT (s213 31))
noncomputable def G31 (c : Nat -> Int) (k : Nat) (a : V) (us pq : List Nat) (sn : List (Nat -> Nat -> Int)) (sh : Nat -> Nat -> Int) (ds : Nat -> List (Str × Int)) (vs : List V) : Fr := cf1 r31 (fr213 (l30 c k sh ds)) (t27 a c us pq sn sh ds) vs
theorem x31 : Step 31 (l30 c k sh ds) (c27 a c us sn sh ds) true (os21 c (pq.map ppV) sh ds) (l30 c k sh ds) (c27 a c us sn sh ds) true (os21 c (pq.map ppV) sh ds) := by
 have h : (lv 117).ev r31 (fr213 (l30 c k sh ds)) (t27 a c us pq sn sh ds) = some (.list (besL sh), t27 a c us pq sn sh ds) := by
  refine lc44 (L := lv 116) (e := r31) (by kernel_rfl) (by kernel_rfl) (by kernel_rfl) (by kernel_rfl) (by kernel_rfl) (by kernel_rfl) (fun i _ => ⟨by kernel_rfl, by kernel_rfl⟩) fun i hi j hj => ⟨by kernel_rfl, ?_⟩
  have e1 := ev_sub (L := lv 114) (e := eAt (eA (eL r31)) 0) (fr := G31 c k a us pq sn sh ds [iv i, iv j]) (a := .list (hd4 sh ds)) (b := iv j) (σ := t27 a c us pq sn sh ds) (σ1 := t27 a c us pq sn sh ds) (σ2 := t27 a c us pq sn sh ds) rfl (by kernel_rfl) (by kernel_rfl) (hd4_get hj)
  have e2 := ev_sub (L := lv 114) (e := eAt (eA (eL r31)) 1) (fr := G31 c k a us pq sn sh ds [iv i, iv j]) (a := .list (hd4 sh ds)) (b := iv i) (σ := t27 a c us pq sn sh ds) (σ1 := t27 a c us pq sn sh ds) (σ2 := t27 a c us pq sn sh ds) rfl (by kernel_rfl) (by kernel_rfl) (hd4_get hi)
  have e3 : (lv 115).ev (eAt (eA (eL r31)) 2) (G31 c k a us pq sn sh ds [iv i, iv j]) (t27 a c us pq sn sh ds) = some (.list ([(i, ((i + 1 : Nat) : Int))].map colV), t27 a c us pq sn sh ds) := by kernel_rfl
  have h := call_turn (m := 101) (z := 1) (b := (G31 c k a us pq sn sh ds [iv i, iv j]).base) (o := oOf (t27 a c us pq sn sh ds)) (w := sh j) (u := sh i) (x := dv (ds j)) (y := dv (ds i)) (cols := [(i, ((i + 1 : Nat) : Int))]) (by decide) (fun p hp => by rw [List.mem_singleton.mp hp]; exact ⟨hi, by show (((i + 1 : Nat) : Int)).natAbs < 1000000; lia⟩) (by show 1 <= 4; decide)
  rw [show SO (NT 1) (oOf (t27 a c us pq sn sh ds)) = t27 a c us pq sn sh ds from t27_so.symm] at h
  exact ev_call (L := lv 115) (e := eL r31) (a := .con (.ref 188)) (σ1 := t27 a c us pq sn sh ds) rfl (by kernel_rfl) rfl (evs3 rfl e1 e2 e3) h
 exact st_no (n := 117) rfl rfl (tr_cmp (L := lv 117) (e := sT (s213 31)) (a := .list (besL sh)) (σ1 := t27 a c us pq sn sh ds) rfl (by kernel_rfl) h (ne_self rfl rfl))
end
noncomputable def usF (u v : Nat) : List Nat := [0, 1, 2, 3, u, v]
noncomputable def pqF (u v : Nat) : List Nat := (i4.erase u ++ [u]).erase v ++ [v]
section
variable {m k : Nat} {c : Nat -> Int} {a : V} {sn : List (Nat -> Nat -> Int)} {sh : Nat -> Nat -> Int} {ds : Nat -> List (Str × Int)} {u v : Nat}
noncomputable def c32 (a : V) (c : Nat -> Int) (u v : Nat) (sn : List (Nat -> Nat -> Int)) (sh : Nat -> Nat -> Int) (ds : Nat -> List (Str × Int)) : List V := c27 a c (usF u v) sn sh ds
noncomputable def l32 (c : Nat -> Int) (k : Nat) (sh : Nat -> Nat -> Int) (ds : Nat -> List (Str × Int)) (u v : Nat) : List V := l30 c k sh ds ++ [.list ((pqF u v).map ppV)]
noncomputable def os32 (c : Nat -> Int) (u v : Nat) (sh : Nat -> Nat -> Int) (ds : Nat -> List (Str × Int)) : List O := os21 c ((pqF u v).map ppV) sh ds
theorem x32 (hu : u < 4) (hv : v < 4) : Step 32 (l30 c k sh ds) (c32 a c u v sn sh ds) true (os32 c u v sh ds) (l32 c k sh ds u v) (c32 a c u v sn sh ds) true (os32 c u v sh ds) :=
 en2 (f := fun u v => exStep (lv 118) (s213 32) (fr213 (l30 c k sh ds)) (ST true (c32 a c u v sn sh ds) (os32 c u v sh ds))) (g := fun u v => some ((.next, fr213 (l32 c k sh ds u v)), ST true (c32 a c u v sn sh ds) (os32 c u v sh ds))) (a := 4) (b := 4) (by kernel_rfl) u hu v hv
noncomputable def os33 (c : Nat -> Int) (pa : List V) (sg : List V) (sh : Nat -> Nat -> Int) (ds : Nat -> List (Str × Int)) : List O := lexA (lnS (c 0) 6) sg pa ++ [compO ((colsOf (c 0)).map colV)] ++ lexB [] [] ++ [.dict (shaV sh ds)] ++ tasO
theorem x33 (hu : u < 4) (hv : v < 4) : Step 33 (l32 c k sh ds u v) (c32 a c u v sn sh ds) true (os32 c u v sh ds) (l32 c k sh ds u v) (c32 a c u v sn sh ds) true (os33 c [] [.str "z"] sh ds) :=
 en2 (f := fun u v => exStep (lv 118) (s213 33) (fr213 (l32 c k sh ds u v)) (ST true (c32 a c u v sn sh ds) (os32 c u v sh ds))) (g := fun u v => some ((.next, fr213 (l32 c k sh ds u v)), ST true (c32 a c u v sn sh ds) (os33 c [] [.str "z"] sh ds))) (a := 4) (b := 4) (by kernel_rfl) u hu v hv
noncomputable def againL (l : List Str) : List V := nones 12 ++ (strL l ++ (strL l ++ [.str "z", .str Str.empty]))
noncomputable def l34 (c : Nat -> Int) (k : Nat) (sh : Nat -> Nat -> Int) (ds : Nat -> List (Str × Int)) (u v : Nat) : List V := l32 c k sh ds u v ++ [.list (againL (lineL c))]
theorem x34 : Step 34 (l32 c k sh ds u v) (c32 a c u v sn sh ds) true (os33 c [] [.str "z"] sh ds) (l34 c k sh ds u v) (c32 a c u v sn sh ds) true (os33 c [] [] sh ds) := by
 obtain ⟨x, e⟩ := six_of (line_len c)
 unfold Step l34 c32 c27 c26 c23 c21 c20 c19 c18 c17 c12 lnV l32 l30 l25 l24 l21 lnV
 rw [e]
 kernel_rfl
theorem again_simple (l : List Str) : V.simples (againL l) = true := by
 rw [sIf]
 intro y hy
 unfold againL at hy
 rw [List.mem_append, List.mem_append, List.mem_append] at hy
 rcases hy with h | h | h | h
 ·rw [(List.mem_replicate.mp h).2]; rfl
 ·exact sIf.mp (sSL l) y h
 ·exact sIf.mp (sSL l) y h
 ·exact (sIf.mp (rfl : V.simples [.str "z", .str Str.empty] = true)) y h
theorem deps_app {n : Nat} : ∀ {a b : List V}, V.deps a n = true -> V.deps b n = true -> V.deps (a ++ b) n = true
 | [], _, _, h => h
 | x :: a, b, h1, h2 => by
  have h1 : (V.dep x n && V.deps a n) = true := h1
  rw [Bool.and_eq_true] at h1
  show (V.dep x n && V.deps (a ++ b) n) = true
  rw [h1.1, deps_app h1.2 h2]; rfl
theorem x35 : Step 35 (l34 c k sh ds u v) (c32 a c u v sn sh ds) true (os33 c [] [] sh ds) (l34 c k sh ds u v) (c32 a c u v sn sh ds) true (os33 c [] [] sh ds) := by
 have h1 : (lv 117).ev (eL (sT (s213 35))) (fr213 (l34 c k sh ds u v)) (ST true (c32 a c u v sn sh ds) (os33 c [] [] sh ds)) = some (.list (againL (lineL c)), ST true (c32 a c u v sn sh ds) (os33 c [] [] sh ds)) := by kernel_rfl
 have h2 : (lv 117).ev (eR (sT (s213 35))) (fr213 (l34 c k sh ds u v)) (ST true (c32 a c u v sn sh ds) (os33 c [] [] sh ds)) = some (.list (againL (lineL c)), ST true (c32 a c u v sn sh ds) (os33 c [] [] sh ds)) := by
  obtain ⟨x, e⟩ := six_of (line_len c)
  unfold l34 c32 c27 c26 c23 c21 c20 c19 c18 c17 c12 lnV
  rw [e]
  kernel_rfl
 exact st_no (n := 117) rfl rfl (tr_cmp (L := lv 117) (e := sT (s213 35)) rfl h1 h2 (ne_self (again_simple _) (deps_app (nones_deps _ 12) (deps_app (deps_strL _ _) (deps_app (deps_strL _ _) rfl)))))
end
noncomputable def Grow (sn : List (Nat -> Nat -> Int)) : Prop := ∀ k, k + 1 < sn.length -> ∀ i, i < 4 -> sn.getD k sh0 i i <= sn.getD (k + 1) sh0 i i
theorem pick_pred {l : List V} {j : Nat} : pick l (((j + 1 : Nat) : Int) - 1) = l[j]? := by
 rw [show ((j + 1 : Nat) : Int) - 1 = (j : Int) by lia]; exact pick_nat
theorem own_get {s : Nat -> Nat -> Int} {i : Nat} (hi : i < 4) {σ : List O} : getItem (ownV s) (iv i) σ = some (.int (s i i), σ) := en (f := fun i => getItem (ownV s) (iv i) σ) (g := fun i => some (.int (s i i), σ)) (n := 4) (by kernel_rfl) i hi
theorem sn_get {sn : List (Nat -> Nat -> Int)} {k : Nat} (h : k < sn.length) : (sn.map ownV)[k]? = some (ownV (sn.getD k sh0)) := by
 rw [List.getElem?_map, List.getD_eq_getElem?_getD, List.getElem?_eq_getElem h]; rfl
theorem flat_nil {α β : Type} : ∀ l : List α, (l.flatMap fun _ => ([] : List β)) = []
 | [] => rfl
 | _ :: l => flat_nil l
section
variable {m k : Nat} {c : Nat -> Int} {a : V} {sn : List (Nat -> Nat -> Int)} {sh : Nat -> Nat -> Int} {ds : Nat -> List (Str × Int)} {u v : Nat}
noncomputable def t35 (a : V) (c : Nat -> Int) (u v : Nat) (sn : List (Nat -> Nat -> Int)) (sh : Nat -> Nat -> Int) (ds : Nat -> List (Str × Int)) : List O := ST true (c32 a c u v sn sh ds) (os33 c [] [] sh ds)
noncomputable def e36 : Expr := eL (sT (s213 36))
noncomputable def j36 : Expr := eAt (eG1 e36 1).ifs 0
noncomputable def F36 (a : V) (c : Nat -> Int) (k u v : Nat) (sn : List (Nat -> Nat -> Int)) (sh : Nat -> Nat -> Int) (ds : Nat -> List (Str × Int)) (vs : List V) : Fr := cf1 e36 (fr213 (l34 c k sh ds u v)) (t35 a c u v sn sh ds) vs
theorem e36_in (hG : Grow sn) {j i : Nat} (hj : j + 1 < sn.length) (hi : i < 4) : turn1 (lv 116) (eG1 e36 1) (F36 a c k u v sn sh ds [iv (j + 1)]) (emitL (lv 116) e36) (iv i) (t35 a c u v sn sh ds) = some ([], t35 a c u v sn sh ds) := by
 have h1 := ev_sub (L := lv 114) (e := eL j36) (fr := F36 a c k u v sn sh ds [iv (j + 1), iv i]) (σ := t35 a c u v sn sh ds) rfl (ev_sub (L := lv 113) (e := eL (eL j36)) (a := .list (sn.map ownV)) (b := iv (j + 1)) (σ1 := t35 a c u v sn sh ds) (σ2 := t35 a c u v sn sh ds) rfl (by kernel_rfl) (by kernel_rfl) (list_get (by rw [pick_nat]; exact sn_get hj))) (b := iv i) (σ2 := t35 a c u v sn sh ds) (by kernel_rfl) (own_get hi)
 have h2 := ev_sub (L := lv 114) (e := eR j36) (fr := F36 a c k u v sn sh ds [iv (j + 1), iv i]) (σ := t35 a c u v sn sh ds) rfl (ev_sub (L := lv 113) (e := eL (eR j36)) (a := .list (sn.map ownV)) (b := .int (((j + 1 : Nat) : Int) - 1)) (σ1 := t35 a c u v sn sh ds) (σ2 := t35 a c u v sn sh ds) rfl (by kernel_rfl) (by kernel_rfl) (list_get (pick_pred.trans (sn_get (Nat.lt_of_succ_lt hj))))) (b := iv i) (σ2 := t35 a c u v sn sh ds) (by kernel_rfl) (own_get hi)
 have ht : (lv 116).tr j36 (F36 a c k u v sn sh ds [iv (j + 1), iv i]) (t35 a c u v sn sh ds) = some (false, t35 a c u v sn sh ds) := tr_cmp (L := lv 115) (e := j36) rfl h1 h2 (by
  show some (decide (sn.getD (j + 1) sh0 i i < sn.getD j sh0 i i), _) = _
  rw [decide_eq_false (Int.not_lt.mpr (hG j hj i hi))])
 exact turn_if (c := false) (x := [V.int 1]) (fr1 := F36 a c k u v sn sh ds [iv (j + 1), iv i]) (by kernel_rfl) (Eq.trans (b := tests (lv 116) [j36] (F36 a c k u v sn sh ds [iv (j + 1), iv i]) (t35 a c u v sn sh ds)) (by kernel_rfl) (tests_one ht)) (by kernel_rfl)
theorem x36 (hG : Grow sn) (h0 : 1 <= sn.length) (hl : sn.length < 200) : Step 36 (l34 c k sh ds u v) (c32 a c u v sn sh ds) true (os33 c [] [] sh ds) (l34 c k sh ds u v) (c32 a c u v sn sh ds) true (os33 c [] [] sh ds) := by
 obtain ⟨n, hn⟩ : ∃ n, sn.length = 1 + n := ⟨sn.length - 1, by lia⟩
 have ht := tPu (chk := noChk) (σ := t35 a c u v sn sh ds) (f := turn1 (lv 116) (eG1 e36 0) (cfr e36 (fr213 (l34 c k sh ds u v)) (t35 a c u v sn sh ds)) fun fr' => do let it' <- iterSrcC (lv 116) (eG1 e36 1).target (eG1 e36 1).iter fr'; turns it'.2 (turn1 (lv 116) (eG1 e36 1) fr' (emitL (lv 116) e36)) it'.1) (t := iv) (w := fun _ => []) (vs := List.range' 1 n) rfl fun j hj => by
  obtain ⟨h1, h2⟩ := List.mem_range'_1.mp hj
  obtain ⟨j, rfl⟩ : ∃ j', j = j' + 1 := ⟨j - 1, by lia⟩
  refine tGo (fr1 := F36 a c k u v sn sh ds [iv (j + 1)]) (by kernel_rfl) rfl (bindR (a := (it 4, noChk)) (σ1 := t35 a c u v sn sh ds) (by kernel_rfl) ?_)
  have := turns_n (S := fun _ => t35 a c u v sn sh ds) (w := fun _ => []) (n := 4) fun i hi => e36_in (a := a) (c := c) (k := k) (u := u) (v := v) (sh := sh) (ds := ds) hG (j := j) (by lia) hi
  rw [flat_nil] at this
  exact this
 rw [flat_nil] at ht
 have hi : iterSrcC (lv 116) (eG1 e36 0).target (eG1 e36 0).iter (fr213 (l34 c k sh ds u v)) (t35 a c u v sn sh ds) = some (((List.range' 1 n).map iv, noChk), t35 a c u v sn sh ds) := by
  refine Eq.trans (b := ((lv 116).ev (eG1 e36 0).iter (fr213 (l34 c k sh ds u v)) >>= itOfC) (t35 a c u v sn sh ds)) (by kernel_rfl) (bindR (a := .rng ((1 : Nat) : Int) ((1 + n : Nat) : Int) 1) (σ1 := t35 a c u v sn sh ds) ?_ (bindR (guardE rfl) ?_))
  rotate_left
  ·exact it_rng (s := 1) (n := n) (by decide) (by lia)
  have h1 := ev_call (L := lv 114) (e := eAt (eA (eG1 e36 0).iter) 1) (a := .con (.builtin "len")) (fr := fr213 (l34 c k sh ds u v)) (σ := t35 a c u v sn sh ds) (σ1 := t35 a c u v sn sh ds) (vs := [.list (sn.map ownV)]) (σ2 := t35 a c u v sn sh ds) rfl (by kernel_rfl) rfl (by kernel_rfl) (len_call (m := 113))
  rw [List.length_map, hn] at h1
  exact ev_call (L := lv 115) (e := (eG1 e36 0).iter) (a := .con (.type "range")) (σ1 := t35 a c u v sn sh ds) rfl (by kernel_rfl) rfl (evs2 rfl (a := .int 1) (σ1 := t35 a c u v sn sh ds) (by kernel_rfl) h1) (by kernel_rfl)
 have h := ev_lcGT (L := lv 116) (e := e36) (by kernel_rfl) (by kernel_rfl) hi (σ3 := t35 a c u v sn sh ds) (by kernel_rfl) (cg2 (by kernel_rfl) ht) (by kernel_rfl) rfl (σ2 := t35 a c u v sn sh ds) List.take_length
 exact st_no (n := 117) rfl rfl (tr_cmp (L := lv 117) (e := sT (s213 36)) rfl h (b := .list []) (σ2 := t35 a c u v sn sh ds) (by kernel_rfl) rfl)
end
noncomputable abbrev Pr := Nat × Nat × Str
noncomputable def pairV (p : Pr) : V := .tup [iv p.1, iv p.2.1, .str p.2.2]
noncomputable def prs (line : List Str) (ds : Nat -> List (Str × Int)) (i j : Nat) : List Pr := if decide (i ≠ j) then (lotL line (ds j)).map fun t => (i, j, t) else []
noncomputable def pairsL (line : List Str) (ds : Nat -> List (Str × Int)) : List Pr := i4.flatMap fun i => i4.flatMap fun j => prs line ds i j
theorem pairs_mem {line : List Str} {ds : Nat -> List (Str × Int)} {p : Pr} (h : p ∈ pairsL line ds) : p.1 < 4 /\ p.2.1 < 4 /\ p.2.2 ∈ lotL line (ds p.2.1) := by
 obtain ⟨i, hi, h⟩ := List.mem_flatMap.mp h
 obtain ⟨j, hj, h⟩ := List.mem_flatMap.mp h
 unfold prs at h
 split at h
 ·obtain ⟨t, ht, rfl⟩ := List.mem_map.mp h
  exact ⟨mem4.mp hi, mem4.mp hj, ht⟩
 ·cases h
theorem flat_len {α β : Type} {n : Nat} {f : α -> List β} : ∀ {l : List α}, (∀ x ∈ l, (f x).length <= n) -> (l.flatMap f).length <= l.length * n
 | [], _ => Nat.zero_le _
 | x :: l, h => by
  rw [List.flatMap_cons, List.length_append, List.length_cons, Nat.succ_mul, Nat.add_comm]
  exact Nat.add_le_add (flat_len fun y hy => h y (.tail _ hy)) (h x (.head _))
theorem pairs_len {line : List Str} {ds : Nat -> List (Str × Int)} (hl : line.length = 6) : (pairsL line ds).length <= 96 := by
 refine flat_len (n := 24) (l := i4) fun i _ => flat_len (n := 6) (l := i4) fun j _ => ?_
 unfold prs
 split
 ·rw [List.length_map, <- hl]; exact lot_len
 ·exact Nat.zero_le _
theorem pair_simple (p : Pr) : (pairV p).simple = true := rfl
theorem flat_mapV {α β : Type} (f : β -> V) (g : α -> List β) : ∀ l : List α, (l.flatMap fun x => (g x).map f) = (l.flatMap g).map f
 | [] => rfl
 | x :: l => by rw [List.flatMap_cons, List.flatMap_cons, List.map_append, flat_mapV f g l]
theorem cg3 {α : Type} {L : Lv} {emit : Fr -> M (List α)} {g g2 g3 : Comprehension} {q : List V × Chk} {fr : Fr} {σ : List O} {r : Option (List α × List O)} (h : (notSet g2.iter && notSet g3.iter) = true) (ht : turns q.2 (turn1 L g fr fun fr' => do let it' <- iterSrcC L g2.target g2.iter fr'; compG L emit g2 [g3] it' fr') q.1 σ = r) : compG L emit g [g2, g3] q fr σ = r := bindR (guardE (Bool.and_eq_true_iff.mp h).1) ht
section
variable {m k : Nat} {c : Nat -> Int} {a : V} {sn : List (Nat -> Nat -> Int)} {sh : Nat -> Nat -> Int} {ds : Nat -> List (Str × Int)} {u v i j : Nat}
noncomputable def F37 (a : V) (c : Nat -> Int) (k u v : Nat) (sn : List (Nat -> Nat -> Int)) (sh : Nat -> Nat -> Int) (ds : Nat -> List (Str × Int)) (vs : List V) : Fr := cf1 (lcE 37) (fr213 (l34 c k sh ds u v)) (t35 a c u v sn sh ds) vs
theorem p37_in (hi : i < 4) (hj : j < 4) : turn1 (lv 118) (eG1 (lcE 37) 1) (F37 a c k u v sn sh ds [iv i]) (fun fr' => do let it' <- iterSrcC (lv 118) (eG1 (lcE 37) 2).target (eG1 (lcE 37) 2).iter fr'; turns it'.2 (turn1 (lv 118) (eG1 (lcE 37) 2) fr' (emitL (lv 118) (lcE 37))) it'.1) (iv j) (t35 a c u v sn sh ds) = some ((prs (lineL c) ds i j).map pairV, t35 a c u v sn sh ds) := by
 have h0 := en2 (f := fun i j => tests (lv 118) (eG1 (lcE 37) 1).ifs (F37 a c k u v sn sh ds [iv i, iv j]) (t35 a c u v sn sh ds)) (g := fun i j => some (decide (i ≠ j), t35 a c u v sn sh ds)) (a := 4) (b := 4) (by kernel_rfl) i hi j hj
 have h1 := en (f := fun j => iterSrcC (lv 118) (eG1 (lcE 37) 2).target (eG1 (lcE 37) 2).iter (F37 a c k u v sn sh ds [iv i, iv j]) (t35 a c u v sn sh ds)) (g := fun j => some ((strL (lotL (lineL c) (ds j)), noChk), t35 a c u v sn sh ds)) (n := 4) (by kernel_rfl) j hj
 have ht := tPu (chk := noChk) (σ := t35 a c u v sn sh ds) (f := turn1 (lv 118) (eG1 (lcE 37) 2) (F37 a c k u v sn sh ds [iv i, iv j]) (emitL (lv 118) (lcE 37))) (t := V.str) (w := fun t => [pairV (i, j, t)]) (vs := lotL (lineL c) (ds j)) rfl fun t ht =>
  tGo (fr1 := F37 a c k u v sn sh ds [iv i, iv j, .str t]) (by kernel_rfl) rfl (mOf (by kernel_rfl))
 rw [flat_one] at ht
 unfold prs
 generalize lotL (lineL c) (ds j) = l at h1 ht ⊢
 refine (turn_if (fr1 := F37 a c k u v sn sh ds [iv i, iv j]) (by kernel_rfl) h0 (bindR h1 ht)).trans ?_
 by_cases h : decide (i ≠ j) = true
 ·rw [if_pos h, if_pos h, List.map_map]; rfl
 ·rw [if_neg h, if_neg h]; rfl
noncomputable def l37 (c : Nat -> Int) (k : Nat) (sh : Nat -> Nat -> Int) (ds : Nat -> List (Str × Int)) (u v : Nat) : List V := l34 c k sh ds u v ++ [.list ((pairsL (lineL c) ds).map pairV)]
theorem x37 : Step 37 (l34 c k sh ds u v) (c32 a c u v sn sh ds) true (os33 c [] [] sh ds) (l37 c k sh ds u v) (c32 a c u v sn sh ds) true (os33 c [] [] sh ds) := by
 have ht := tPu (chk := noChk) (σ := t35 a c u v sn sh ds) (f := turn1 (lv 118) (eG1 (lcE 37) 0) (cfr (lcE 37) (fr213 (l34 c k sh ds u v)) (t35 a c u v sn sh ds)) fun fr' => do let it' <- iterSrcC (lv 118) (eG1 (lcE 37) 1).target (eG1 (lcE 37) 1).iter fr'; compG (lv 118) (emitL (lv 118) (lcE 37)) (eG1 (lcE 37) 1) [eG1 (lcE 37) 2] it' fr') (t := iv) (w := fun i => (i4.flatMap fun j => prs (lineL c) ds i j).map pairV) (vs := i4) rfl fun i hi => by
  refine tGo (fr1 := F37 a c k u v sn sh ds [iv i]) (by kernel_rfl) rfl (bindR (a := (i4.map iv, noChk)) (σ1 := t35 a c u v sn sh ds) (by kernel_rfl) (cg2 (by kernel_rfl) ?_))
  have h := tPu (chk := noChk) (σ := t35 a c u v sn sh ds) (t := iv) (w := fun j => (prs (lineL c) ds i j).map pairV) (vs := i4) rfl fun j hj => p37_in (a := a) (c := c) (k := k) (u := u) (v := v) (sn := sn) (sh := sh) (ds := ds) (mem4.mp hi) (mem4.mp hj)
  rw [flat_mapV] at h
  exact h
 rw [flat_mapV] at ht
 have h : evA (lv 118) (lcE 37) (fr213 (l34 c k sh ds u v)) (t35 a c u v sn sh ds) = some (.list ((pairsL (lineL c) ds).map pairV), t35 a c u v sn sh ds) :=
  ev_lcGT (L := lv 118) (e := lcE 37) (by kernel_rfl) (by kernel_rfl) (chk := noChk) (items := i4.map iv) (by kernel_rfl) (σ3 := t35 a c u v sn sh ds) (by kernel_rfl) (cg3 (by kernel_rfl) ht) (decide_eq_true (show _ <= lim by
   rw [List.length_map]
   exact Nat.le_trans (pairs_len (line_len c)) (by decide))) (sMp pair_simple _) List.take_length
 exact st_as rfl h (by kernel_rfl)
noncomputable def rst (W : Str -> Nat -> Int) (sh : Nat -> Nat -> Int) (p : Pr) : Int := sh p.2.1 p.1 - W p.2.2 p.1
noncomputable def F38 (e : Expr) (a : V) (c : Nat -> Int) (k u v : Nat) (sn : List (Nat -> Nat -> Int)) (sh : Nat -> Nat -> Int) (ds : Nat -> List (Str × Int)) (ls : List V) (vs : List V) : Fr := cf1 e (fr213 (l37 c k sh ds u v ++ ls)) (t35 a c u v sn sh ds) vs
noncomputable def intsV (l : List Int) : V := .list (l.map .int)
theorem lc_pairs {n : Nat} {e : Expr} {ls : List V} {f : Pr -> Int} (h0 : isLc e = true) (hk : (eKp e, eMt e) = (false, false)) (hi : iterSrcC (lv n) (eG1 e 0).target (eG1 e 0).iter (fr213 (l37 c k sh ds u v ++ ls)) (t35 a c u v sn sh ds) = some (((pairsL (lineL c) ds).map pairV, noChk), t35 a c u v sn sh ds))
  (hc : (takenC (fr213 (l37 c k sh ds u v ++ ls)) (eS e).names []).bind (fun cl => (mkCells (eS e).names cl (t35 a c u v sn sh ds)).map (·.2)) = some (t35 a c u v sn sh ds)) (hn : (eG1 e 0).ifs.isEmpty = true)
  (ha : ∀ p, asgC (eG1 e 0).target (pairV p) (cfr e (fr213 (l37 c k sh ds u v ++ ls)) (t35 a c u v sn sh ds)) (t35 a c u v sn sh ds) = some (F38 e a c k u v sn sh ds ls [iv p.1, iv p.2.1, .str p.2.2], t35 a c u v sn sh ds))
  (he : ∀ p : Pr, p.1 < 4 -> p.2.1 < 4 -> p.2.2 ∈ lineL c -> (lv n).ev (eL e) (F38 e a c k u v sn sh ds ls [iv p.1, iv p.2.1, .str p.2.2]) (t35 a c u v sn sh ds) = some (.int (f p), t35 a c u v sn sh ds)) :
  evStep (lv n) e (fr213 (l37 c k sh ds u v ++ ls)) (t35 a c u v sn sh ds) = some (intsV ((pairsL (lineL c) ds).map f), t35 a c u v sn sh ds) := by
 have ht := tPu (chk := noChk) (σ := t35 a c u v sn sh ds) (f := turn1 (lv n) (eG1 e 0) (cfr e (fr213 (l37 c k sh ds u v ++ ls)) (t35 a c u v sn sh ds)) (emitL (lv n) e)) (t := pairV) (w := fun p => [V.int (f p)]) (vs := pairsL (lineL c) ds) rfl fun p hp => by
  obtain ⟨h1, h2, h3⟩ := pairs_mem hp
  exact tGo (ha p) (List.isEmpty_iff.mp hn) (mOf (he p h1 h2 (lot_mem _ h3)))
 rw [flat_one] at ht
 unfold intsV
 rw [List.map_map]
 exact ev_lcT h0 hk hi hc ht (decide_eq_true (show _ <= lim by
   rw [List.length_map]
   exact Nat.le_trans (pairs_len (line_len c)) (by decide))) (sMp (fun _ => rfl) _) List.take_length
theorem hd_ji {n : Nat} {e : Expr} {fr : Fr} (hi : i < 4) (hj : j < 4) (h : (isSubE e && isSubE (eL e)) = true) (h1 : (lv n).ev (eL (eL e)) fr (t35 a c u v sn sh ds) = some (.list (hd4 sh ds), t35 a c u v sn sh ds)) (h2 : (lv n).ev (eR (eL e)) fr (t35 a c u v sn sh ds) = some (iv j, t35 a c u v sn sh ds)) (h3 : (lv (n + 1)).ev (eR e) fr (t35 a c u v sn sh ds) = some (iv i, t35 a c u v sn sh ds)) : evStep (lv (n + 1)) e fr (t35 a c u v sn sh ds) = some (.int (sh j i), t35 a c u v sn sh ds) :=
 ev_sub (L := lv (n + 1)) (Bool.and_eq_true_iff.mp h).1 (ev_sub (L := lv n) (Bool.and_eq_true_iff.mp h).2 h1 h2 (hd4_get hj)) h3 (tup_get hi)
theorem due_ti {n : Nat} {e : Expr} {fr : Fr} {t : Str} (hi : i < 4) (ht : t ∈ lineL c) (h : (isSubE e && isSubE (eL e)) = true) (h1 : (lv n).ev (eL (eL e)) fr (t35 a c u v sn sh ds) = some (.dict (wtab c 6), t35 a c u v sn sh ds)) (h2 : (lv n).ev (eR (eL e)) fr (t35 a c u v sn sh ds) = some (.str t, t35 a c u v sn sh ds)) (h3 : (lv (n + 1)).ev (eR e) fr (t35 a c u v sn sh ds) = some (iv i, t35 a c u v sn sh ds)) : evStep (lv (n + 1)) e fr (t35 a c u v sn sh ds) = some (.int (Wf c t i), t35 a c u v sn sh ds) :=
 ev_sub (L := lv (n + 1)) (Bool.and_eq_true_iff.mp h).1 (ev_sub (L := lv n) (Bool.and_eq_true_iff.mp h).2 h1 h2 (dict_get (tab_ok c t (line_mem c t ht)))) h3 (tup_get hi)
end
theorem ints_simple (l : List Int) : V.simples (l.map V.int) = true := sMp (fun _ => rfl) l
theorem ints_deps (l : List Int) : V.deps (l.map V.int) 20 = true := deps_map (fun _ => rfl) l
section
variable {m k : Nat} {c : Nat -> Int} {a : V} {sn : List (Nat -> Nat -> Int)} {sh : Nat -> Nat -> Int} {ds : Nat -> List (Str × Int)} {u v i j : Nat}
noncomputable def l38 (c : Nat -> Int) (k : Nat) (sh : Nat -> Nat -> Int) (ds : Nat -> List (Str × Int)) (u v : Nat) : List V := l37 c k sh ds u v ++ [intsV ((pairsL (lineL c) ds).map (rst (Wf c) sh))]
theorem x38 : Step 38 (l37 c k sh ds u v) (c32 a c u v sn sh ds) true (os33 c [] [] sh ds) (l38 c k sh ds u v) (c32 a c u v sn sh ds) true (os33 c [] [] sh ds) := by
 have h := lc_pairs (n := 118) (e := lcE 38) (ls := []) (a := a) (c := c) (k := k) (u := u) (v := v) (sn := sn) (sh := sh) (ds := ds) (f := rst (Wf c) sh) rfl (by kernel_rfl) (by kernel_rfl) (by kernel_rfl) rfl (fun p => by kernel_rfl) fun p h1 h2 h3 => by
  have e1 := hd_ji (n := 115) (e := eAt (eA (eL (lcE 38))) 0) (fr := F38 (lcE 38) a c k u v sn sh ds [] [iv p.1, iv p.2.1, .str p.2.2]) (a := a) (c := c) (u := u) (v := v) (sn := sn) (sh := sh) (ds := ds) h1 h2 (by kernel_rfl) (by kernel_rfl) (by kernel_rfl) (by kernel_rfl)
  have e2 := due_ti (n := 115) (e := eAt (eA (eL (lcE 38))) 1) (fr := F38 (lcE 38) a c k u v sn sh ds [] [iv p.1, iv p.2.1, .str p.2.2]) (a := a) (c := c) (u := u) (v := v) (sn := sn) (sh := sh) (ds := ds) h1 h3 (by kernel_rfl) (by kernel_rfl) (by kernel_rfl) (by kernel_rfl)
  exact ev_call (L := lv 117) (e := eL (lcE 38)) (a := .con (.ref 133)) (σ1 := t35 a c u v sn sh ds) rfl (by kernel_rfl) rfl (evs2 rfl e1 e2) (call_sub.trans (by rw [List.take_length]; rfl))
 have h' : evA (lv 118) (lcE 38) (fr213 (l37 c k sh ds u v)) (t35 a c u v sn sh ds) = some (intsV ((pairsL (lineL c) ds).map (rst (Wf c) sh)), t35 a c u v sn sh ds) := Eq.trans (b := evStep (lv 118) (lcE 38) (fr213 (l37 c k sh ds u v ++ [])) (t35 a c u v sn sh ds)) (by kernel_rfl) h
 exact st_as (st := s213 38) (by kernel_rfl) h' (by kernel_rfl)
noncomputable def r39 : Expr := eR (sT (s213 39))
theorem x39 : Step 39 (l38 c k sh ds u v) (c32 a c u v sn sh ds) true (os33 c [] [] sh ds) (l38 c k sh ds u v) (c32 a c u v sn sh ds) true (os33 c [] [] sh ds) := by
 have h := lc_pairs (n := 116) (e := r39) (ls := [intsV ((pairsL (lineL c) ds).map (rst (Wf c) sh))]) (a := a) (c := c) (k := k) (u := u) (v := v) (sn := sn) (sh := sh) (ds := ds) (f := rst (Wf c) sh) rfl (by kernel_rfl) (by kernel_rfl) (by kernel_rfl) rfl (fun p => by kernel_rfl) fun p h1 h2 h3 => by
  have e1 := hd_ji (n := 113) (e := eL (eL r39)) (fr := F38 r39 a c k u v sn sh ds [intsV ((pairsL (lineL c) ds).map (rst (Wf c) sh))] [iv p.1, iv p.2.1, .str p.2.2]) (a := a) (c := c) (u := u) (v := v) (sn := sn) (sh := sh) (ds := ds) h1 h2 (by kernel_rfl) (by kernel_rfl) (by kernel_rfl) (by kernel_rfl)
  have e2 := due_ti (n := 113) (e := eR (eL r39)) (fr := F38 r39 a c k u v sn sh ds [intsV ((pairsL (lineL c) ds).map (rst (Wf c) sh))] [iv p.1, iv p.2.1, .str p.2.2]) (a := a) (c := c) (u := u) (v := v) (sn := sn) (sh := sh) (ds := ds) h1 h3 (by kernel_rfl) (by kernel_rfl) (by kernel_rfl) (by kernel_rfl)
  exact ev_bin (L := lv 115) (e := eL r39) rfl e1 e2 (by kernel_rfl)
 exact st_no (n := 117) (st := s213 39) (by kernel_rfl) (by kernel_rfl) (tr_cmp (L := lv 117) (e := sT (s213 39)) (a := intsV ((pairsL (lineL c) ds).map (rst (Wf c) sh))) (b := intsV ((pairsL (lineL c) ds).map (rst (Wf c) sh))) (σ1 := t35 a c u v sn sh ds) (σ2 := t35 a c u v sn sh ds) (by kernel_rfl) (by kernel_rfl) h (ne_self (ints_simple _) (ints_deps _)))
noncomputable def own' (sh : Nat -> Nat -> Int) (p : Pr) : Int := sh p.1 p.1
noncomputable def l40 (c : Nat -> Int) (k : Nat) (sh : Nat -> Nat -> Int) (ds : Nat -> List (Str × Int)) (u v : Nat) : List V := l38 c k sh ds u v ++ [intsV ((pairsL (lineL c) ds).map (own' sh))]
theorem x40 : Step 40 (l38 c k sh ds u v) (c32 a c u v sn sh ds) true (os33 c [] [] sh ds) (l40 c k sh ds u v) (c32 a c u v sn sh ds) true (os33 c [] [] sh ds) := by
 have h := lc_pairs (n := 118) (e := lcE 40) (ls := [intsV ((pairsL (lineL c) ds).map (rst (Wf c) sh))]) (a := a) (c := c) (k := k) (u := u) (v := v) (sn := sn) (sh := sh) (ds := ds) (f := own' sh) rfl (by kernel_rfl) (by kernel_rfl) (by kernel_rfl) rfl (fun p => by kernel_rfl) fun p h1 h2 h3 =>
  hd_ji (n := 116) (e := eL (lcE 40)) (fr := F38 (lcE 40) a c k u v sn sh ds [intsV ((pairsL (lineL c) ds).map (rst (Wf c) sh))] [iv p.1, iv p.2.1, .str p.2.2]) (a := a) (c := c) (u := u) (v := v) (sn := sn) (sh := sh) (ds := ds) h1 h1 (by kernel_rfl) (by kernel_rfl) (by kernel_rfl) (by kernel_rfl)
 have h' : evA (lv 118) (lcE 40) (fr213 (l38 c k sh ds u v)) (t35 a c u v sn sh ds) = some (intsV ((pairsL (lineL c) ds).map (own' sh)), t35 a c u v sn sh ds) := Eq.trans (by kernel_rfl) h
 exact st_as (st := s213 40) (by kernel_rfl) h' (by kernel_rfl)
noncomputable def e41 : Expr := eL (sE (s213 41))
noncomputable def j41 : Expr := eAt (eG1 e41 0).ifs 0
noncomputable def twoV (sh : Nat -> Nat -> Int) (W : Str -> Nat -> Int) (p : Pr) : V := .tup [.int (own' sh p), .int (rst W sh p)]
theorem zip_map {W : Str -> Nat -> Int} : ∀ l : List Pr, zipV ((l.map (own' sh)).map .int) ((l.map (rst W sh)).map .int) = l.map (twoV sh W)
 | [] => rfl
 | p :: l => congrArg (twoV sh W p :: ·) (zip_map l)
noncomputable def F41 (a : V) (c : Nat -> Int) (k u v : Nat) (sn : List (Nat -> Nat -> Int)) (sh : Nat -> Nat -> Int) (ds : Nat -> List (Str × Int)) (vs : List V) : Fr := cf1 e41 (fr213 (l40 c k sh ds u v)) (t35 a c u v sn sh ds) vs
theorem isnot_bool {b d : Bool} {σ : List O} : cmp .IsNot (.bool b) (.bool d) σ = some (!decide (b = d), σ) := rfl
theorem j41_no {x y : Int} (h : y <= x) : (lv 116).tr j41 (F41 a c k u v sn sh ds [.int x, .int y]) (t35 a c u v sn sh ds) = some (false, t35 a c u v sn sh ds) := by
 have g : ∀ {z w}, (lv 113).call (F41 a c k u v sn sh ds [.int x, .int y]).base (.con (.ref 119)) [.int z, .int w] (t35 a c u v sn sh ds) = some (.bool (decide (w <= z)), t35 a c u v sn sh ds) := fun {z w} => call_ge.trans (by rw [List.take_length])
 have e1 := ev_call (L := lv 113) (e := eL (eAt (eA j41) 0)) (a := .con (.ref 119)) (fr := F41 a c k u v sn sh ds [.int x, .int y]) (σ := t35 a c u v sn sh ds) (σ1 := t35 a c u v sn sh ds) (vs := [.int x, .int y]) (σ2 := t35 a c u v sn sh ds) rfl (by kernel_rfl) rfl (by kernel_rfl) g
 have e2 := ev_call (L := lv 113) (e := eL (eAt (eA j41) 1)) (a := .con (.ref 119)) (fr := F41 a c k u v sn sh ds [.int x, .int y]) (σ := t35 a c u v sn sh ds) (σ1 := t35 a c u v sn sh ds) (vs := [.int y, .int x]) (σ2 := t35 a c u v sn sh ds) rfl (by kernel_rfl) rfl (by kernel_rfl) g
 rw [decide_eq_true h] at e1
 refine tr_or (L := lv 115) (e := j41) (by kernel_rfl) (tr_cmp (L := lv 114) (e := eAt (eA j41) 0) (by kernel_rfl) e1 (b := .bool true) (σ2 := t35 a c u v sn sh ds) (by kernel_rfl) rfl) (tr_cmp (L := lv 114) (e := eAt (eA j41) 1) (by kernel_rfl) e2 (b := .bool (decide (x = y))) (σ2 := t35 a c u v sn sh ds) (by kernel_rfl) ?_)
 have : decide (x <= y) = decide (x = y) := decide_eq_decide.mpr ⟨fun h2 => by lia, fun h2 => by lia⟩
 rw [this]
 exact isnot_bool.trans (by rw [decide_eq_true rfl]; rfl)
theorem e41_no {p : Pr} (h : rst (Wf c) sh p <= own' sh p) : turn1 (lv 116) (eG1 e41 0) (cfr e41 (fr213 (l40 c k sh ds u v)) (t35 a c u v sn sh ds)) (emitL (lv 116) e41) (twoV sh (Wf c) p) (t35 a c u v sn sh ds) = some ([], t35 a c u v sn sh ds) := by
 have ht : tests (lv 116) (eG1 e41 0).ifs (F41 a c k u v sn sh ds [.int (own' sh p), .int (rst (Wf c) sh p)]) (t35 a c u v sn sh ds) = some (false, t35 a c u v sn sh ds) := Eq.trans (b := tests (lv 116) [j41] (F41 a c k u v sn sh ds [.int (own' sh p), .int (rst (Wf c) sh p)]) (t35 a c u v sn sh ds)) (by kernel_rfl) (tests_one (j41_no h))
 exact turn_if (c := false) (x := [V.int 1]) (fr1 := F41 a c k u v sn sh ds [.int (own' sh p), .int (rst (Wf c) sh p)]) (by kernel_rfl) ht (by kernel_rfl)
theorem x41 (hE : ∀ p ∈ pairsL (lineL c) ds, rst (Wf c) sh p <= own' sh p) : exStep (lv 118) (s213 41) (fr213 (l40 c k sh ds u v)) (t35 a c u v sn sh ds) = some ((.ret (.bool true), fr213 (l40 c k sh ds u v)), t35 a c u v sn sh ds) := by
 have hi : iterSrcC (lv 116) (eG1 e41 0).target (eG1 e41 0).iter (fr213 (l40 c k sh ds u v)) (t35 a c u v sn sh ds) = some (((pairsL (lineL c) ds).map (twoV sh (Wf c)), noChk), t35 a c u v sn sh ds) := by
  rw [<- zip_map]
  kernel_rfl
 have ht := tPu (chk := noChk) (σ := t35 a c u v sn sh ds) (f := turn1 (lv 116) (eG1 e41 0) (cfr e41 (fr213 (l40 c k sh ds u v)) (t35 a c u v sn sh ds)) (emitL (lv 116) e41)) (t := twoV sh (Wf c)) (w := fun _ => []) (vs := pairsL (lineL c) ds) rfl fun p hp => e41_no (hE p hp)
 rw [flat_nil] at ht
 have h1 : (lv 117).ev e41 (fr213 (l40 c k sh ds u v)) (t35 a c u v sn sh ds) = some (.list [], t35 a c u v sn sh ds) :=
  ev_lcT (L := lv 116) (e := e41) (by kernel_rfl) (by kernel_rfl) hi (σ3 := t35 a c u v sn sh ds) (by kernel_rfl) ht (by kernel_rfl) rfl List.take_length
 have h2 : (lv 118).ev (sE (s213 41)) (fr213 (l40 c k sh ds u v)) (t35 a c u v sn sh ds) = some (.bool true, t35 a c u v sn sh ds) :=
  Eq.trans (b := (guardM true >>= fun _ => (guardM true >>= fun _ => (lv 117).ev e41 (fr213 (l40 c k sh ds u v)) >>= fun a => (lv 117).ev (eR (sE (s213 41))) (fr213 (l40 c k sh ds u v)) >>= fun b => cmp .Eq a b) >>= fun b => pure (V.bool b)) (t35 a c u v sn sh ds)) (by kernel_rfl) (bindR (guardE rfl) (bindR (bindR (guardE rfl) (bindR h1 (bindR (a := .list []) (σ1 := t35 a c u v sn sh ds) (by kernel_rfl) cmp_nil))) rfl))
 exact bindR (liftE rfl) (bindR h2 rfl)
end
theorem sq_nonneg (a : Int) : 0 <= a ^ 2 := by
 rw [Int.pow_succ, Int.pow_succ, Int.pow_zero, Int.one_mul]
 rcases Int.le_total 0 a with h | h
 ·exact Int.mul_nonneg h h
 ·exact Int.mul_nonneg_of_nonpos_of_nonpos h h
theorem wacc_mono (c : Nat -> Int) (i : Nat) {j k : Nat} (h : j <= k) : wacc c j i <= wacc c k i := by
 induction h with
 | refl => exact Int.le_refl _
 | step _ ih => exact Int.le_trans ih (Int.le_add_of_nonneg_right (sq_nonneg _))
theorem W_nn (c : Nat -> Int) (t : Str) (i : Nat) : 0 <= Wf c t i := wacc_mono c i (Nat.zero_le _)
theorem W_cmp (c : Nat -> Int) (a b : Str) : (∀ i, Wf c b i <= Wf c a i) ∨ (∀ i, Wf c a i <= Wf c b i) :=
 (Nat.le_total (6 - nameL.idxOf b) (6 - nameL.idxOf a)).imp (fun h i => wacc_mono c i h) fun h i => wacc_mono c i h
theorem ge_all : ∀ {cols : List (Nat × Int)} {w u : Nat -> Int}, geL cols w u -> (∀ i, w i <= u i) -> ∀ p ∈ cols, w p.1 = u p.1
 | (k, d) :: r, w, u, h, hle, p, hp => by
  rcases h with h | ⟨h, h2⟩
  ·exact absurd (hle k) (Int.not_le.mpr h)
  ·rcases List.mem_cons.mp hp with rfl | hp
   ·exact h.symm
   ·exact ge_all h2 hle p hp
theorem ge_point (c : Nat -> Int) {a b : Str} (h : geL (colsOf (c 0)) (Wf c a) (Wf c b)) {i : Nat} (hi : i < 4) : Wf c b i <= Wf c a i := by
 rcases W_cmp c a b with g | g
 ·exact g i
 ·have hm : (i, -1 - (i : Int)) ∈ colsOf (c 0) := List.mem_map.mpr ⟨i, (col_perm (c 0)).mem_iff.mpr (mem4.mpr hi), rfl⟩
  exact Int.le_of_eq (ge_all h g _ hm).symm
noncomputable def Falls (W : Str -> Nat -> Int) (l : List Str) : Prop := l.Pairwise fun a b => ∀ i, i < 4 -> W b i <= W a i
theorem line_falls (c : Nat -> Int) : Falls (Wf c) (lineL c) := (line_sort c).2.imp fun h i hi => ge_point c h hi
noncomputable def NonNeg (sh : Nat -> Nat -> Int) : Prop := ∀ j, j < 4 -> 0 <= sh j j
noncomputable def Zero (sh : Nat -> Nat -> Int) (o : Nat) : Prop := ∀ j, sh o j = 0
noncomputable def ownLe (s t : Nat -> Nat -> Int) : Prop := ∀ i, i < 4 -> s i i <= t i i
noncomputable def Asc : (Nat -> Nat -> Int) -> List (Nat -> Nat -> Int) -> Prop
 | _, [] => True
 | s, t :: r => ownLe s t /\ Asc t r
section
variable {W : Str -> Nat -> Int} {S : Str -> Int} {sh sh1 sh' : Nat -> Nat -> Int} {ds ds1 ds' : Nat -> List (Str × Int)} {os sn : List (Nat -> Nat -> Int)} {u o : Nat} {x : Str} {pq pq' us : List Nat} {line rest th : List Str}
theorem upd_ne {α : Type} {f : Nat -> α} {w : α} {i : Nat} (h : i ≠ u) : upd f u w i = f i := if_neg h
theorem upd_eq {α : Type} {f : Nat -> α} {w : α} : upd f u w u = w := if_pos rfl
theorem want_zero (h : NonNeg sh) (hz : Zero sh o) : wantL sh o = [] := List.filter_eq_nil_iff.mpr fun j hj => by
 rw [decide_eq_true_eq, hz j]
 exact Int.not_lt.mpr (h j (mem4.mp hj))
theorem gr_own (hW : ∀ t i, 0 <= W t i) : ownLe sh (gr W sh u x) := fun i hi => by
 unfold gr
 by_cases e : i = u
 ·rw [e, upd_eq]
  exact Int.le_add_of_nonneg_left (hW x u)
 ·rw [upd_ne e]; exact Int.le_refl _
theorem gr_nn (hW : ∀ t i, 0 <= W t i) (h : NonNeg sh) : NonNeg (gr W sh u x) := fun j hj => Int.le_trans (h j hj) (gr_own hW j hj)
theorem gr_zero (hz : Zero sh o) (hne : o ≠ u) : Zero (gr W sh u x) o := fun j => by
 unfold gr
 rw [upd_ne hne]; exact hz j
theorem rots_nil (R : Rots sh ds sh1 ds1 os) (h : NonNeg sh) (hz : Zero sh o) (ho : o < 4) : sh1 = sh /\ ds1 = ds := by
 cases R with
 | nil => exact ⟨rfl, rfl⟩
 | cons r hu _ =>
  have hm : o ∈ unwL sh := List.mem_filter.mpr ⟨mem4.mpr ho, (congrArg List.isEmpty (want_zero h hz)).trans rfl⟩
  rw [List.isEmpty_iff.mp hu] at hm
  cases hm
theorem fu_head (h : NonNeg sh) (hz : Zero sh o) : fu sh (o :: pq) = o := by
 unfold fu
 rw [List.find?_cons, want_zero h hz]; rfl
theorem deal_cons {P : Prop} (D : Deal W S (x :: rest) pq sh ds pq' sh' ds' us sn) (k : ∀ sh1 ds1 os us' sn', Rots sh ds sh1 ds1 os -> (unwL sh1).isEmpty = false -> us = fu sh1 pq :: us' ->
  Deal W S rest (pq.erase (fu sh1 pq) ++ [fu sh1 pq]) (gr W sh1 (fu sh1 pq) x) (gd S ds1 (fu sh1 pq) x) pq' sh' ds' us' sn' -> P) : P := by
 cases D with
 | cons R hu D' => exact k _ _ _ _ _ R hu rfl D'
theorem deal_nil (D : Deal W S [] pq sh ds pq' sh' ds' us sn) : pq' = pq /\ us = [] := by
 cases D with
 | nil => exact ⟨rfl, rfl⟩
theorem deal_stepP (hW : ∀ t i, 0 <= W t i) (D : Deal W S (x :: rest) (o :: pq) sh ds pq' sh' ds' us sn) (h : NonNeg sh) (hz : Zero sh o) (ho : o < 4) :
  ∀ {P : Prop}, (∀ {us' sn'}, us = o :: us' -> Deal W S rest (pq ++ [o]) (gr W sh o x) (gd S ds o x) pq' sh' ds' us' sn' -> P) -> P := by
 refine fun {P} k => deal_cons D fun sh1 ds1 os us1 sn1 R hu e D' => ?_
 obtain ⟨rfl, rfl⟩ := rots_nil R h hz ho
 rw [fu_head (pq := pq) h hz] at e D'
 rw [List.erase_cons_head] at D'
 exact k e D'
theorem deal_last {x y : Str} (D : Deal W S [x, y] i4 sh ds pq' sh' ds' us sn) : ∃ u v, u < 4 /\ v < 4 /\ us = [u, v] /\ pq' = pqF u v :=
 deal_cons D fun s1 _ _ _ _ _ h5 e5 D5 => deal_cons D5 fun s2 _ _ _ _ _ h6 e6 D6 => by
  have m5 := (fu_mem (.refl _) h5).1
  have p6 := perm_turn m5
  have m6 := (fu_mem p6 h6).1
  obtain ⟨e7, e8⟩ := deal_nil D6
  exact ⟨_, _, mem4.mp m5, mem4.mp (p6.mem_iff.mp m6), by rw [e5, e6, e8], e7⟩
theorem deal_us (hW : ∀ t i, 0 <= W t i) (hl : line.length = 6) (D : Deal W S line i4 sh0 ds0 pq' sh' ds' us sn) : ∃ u v, u < 4 /\ v < 4 /\ us = usF u v /\ pq' = pqF u v := by
 obtain ⟨x, rfl⟩ := six_of hl
 have n0 : NonNeg sh0 := fun j _ => Int.le_refl _
 have z0 : ∀ o, Zero sh0 o := fun o j => rfl
 refine deal_stepP hW D n0 (z0 0) (by decide) fun {u1 s1} e1 D1 => ?_
 have n1 := gr_nn (u := 0) (x := x 0) hW n0
 have z1 : ∀ o, o ≠ 0 -> Zero (gr W sh0 0 (x 0)) o := fun o h => gr_zero (z0 o) h
 refine deal_stepP hW D1 n1 (z1 1 (by decide)) (by decide) fun {u2 s2} e2 D2 => ?_
 have n2 := gr_nn (u := 1) (x := x 1) hW n1
 generalize gr W sh0 0 (x 0) = g1 at z1 D2 n2
 have z2 : ∀ o, o ≠ 0 -> o ≠ 1 -> Zero (gr W g1 1 (x 1)) o := fun o h h2 => gr_zero (z1 o h) h2
 generalize gr W g1 1 (x 1) = g2 at z2 D2 n2
 refine deal_stepP hW D2 n2 (z2 2 (by decide) (by decide)) (by decide) fun {u3 s3} e3 D3 => ?_
 have n3 := gr_nn (u := 2) (x := x 2) hW n2
 have z3 : Zero (gr W g2 2 (x 2)) 3 := gr_zero (z2 3 (by decide) (by decide)) (by decide)
 refine deal_stepP hW D3 n3 z3 (by decide) fun {u4 s4} e4 D4 => ?_
 obtain ⟨u, v, hu, hv, e, e5⟩ := deal_last D4
 exact ⟨u, v, hu, hv, by rw [e1, e2, e3, e4, e]; rfl, e5⟩
theorem rots_asc (R : Rots sh ds sh1 ds1 os) : ∀ l, Asc sh1 l -> Asc sh (os ++ l) := by
 induction R with
 | nil => exact fun l h => h
 | cons r _ _ ih => exact fun l h => ⟨r.keep, ih l h⟩
theorem rots_len (R : Rots sh ds sh1 ds1 os) : os.length + envN sh1 <= envN sh := by
 induction R with
 | nil => exact Nat.le_of_eq (Nat.zero_add _)
 | cons r _ _ ih => have := env_dec r; rw [List.length_cons]; lia
theorem deal_asc (hW : ∀ t i, 0 <= W t i) (D : Deal W S line pq sh ds pq' sh' ds' us sn) : ∀ s, ownLe s sh -> Asc s sn := by
 induction D with
 | nil => exact fun _ _ => trivial
 | cons R hu D' ih => exact fun s h => ⟨h, rots_asc R _ (ih _ (gr_own hW))⟩
theorem deal_snlen (D : Deal W S line pq sh ds pq' sh' ds' us sn) : sn.length <= 17 * line.length := by
 induction D with
 | nil => exact Nat.zero_le _
 | cons R hu D' ih =>
  have h1 := Nat.le_trans (Nat.le_of_add_right_le (rots_len R)) env_le
  rw [List.length_cons, List.length_append, List.length_cons]
  lia
theorem asc_grow : ∀ (s : Nat -> Nat -> Int) (l : List (Nat -> Nat -> Int)), Asc s l -> Grow (s :: l)
 | s, [], _, k, hk, i, hi => absurd hk (Nat.not_lt.mpr (Nat.succ_le_succ (Nat.zero_le k)))
 | s, t :: r, h, 0, hk, i, hi => h.1 i hi
 | s, t :: r, h, k + 1, hk, i, hi => asc_grow t r h.2 k (Nat.lt_of_succ_lt_succ hk) i hi
theorem deal_grow (hW : ∀ t i, 0 <= W t i) (hl : line.length = 6) (D : Deal W S line pq sh ds pq' sh' ds' us sn) : Grow sn /\ sn.length < 200 /\ 1 <= sn.length := by
 have h1 := deal_snlen D
 rw [hl] at h1
 cases D with
 | nil => cases hl
 | cons R hu D' => exact ⟨asc_grow _ _ (rots_asc R _ (deal_asc hW D' _ (gr_own hW))), by lia, Nat.succ_le_succ (Nat.zero_le _)⟩
end
noncomputable def tabS (S : Str -> Int) (ts : List Str) : List (Str × Int) := ts.map fun t => (t, S t)
structure Std (W : Str -> Nat -> Int) (S : Str -> Int) (th : List Str) (sh : Nat -> Nat -> Int) (ds : Nat -> List (Str × Int)) (B : Nat -> List Str) : Prop where
 sub : ∀ i, i < 4 -> (B i).Sublist th
 prt : (i4.flatMap B).Perm th
 hd : ∀ i, i < 4 -> ds i = tabS S (B i)
 hs : ∀ i, i < 4 -> ∀ j, sh i j = ((B i).map fun t => W t j).sum
 ef : ∀ i, i < 4 -> ∀ x, (B i).getLast? = some x -> ∀ j, j < 4 -> sh i j - W x j <= sh j j
theorem flat4 {α : Type} (B : Nat -> List α) : i4.flatMap B = B 0 ++ (B 1 ++ (B 2 ++ B 3)) := by
 show B 0 ++ (B 1 ++ (B 2 ++ (B 3 ++ []))) = _
 rw [List.append_nil]
section
variable {W : Str -> Nat -> Int} {S : Str -> Int} {sh sh1 sh' : Nat -> Nat -> Int} {ds ds1 ds' : Nat -> List (Str × Int)} {os sn : List (Nat -> Nat -> Int)} {u o k : Nat} {x : Str} {pq pq' us : List Nat} {line rest th : List Str} {B : Nat -> List Str} {π : Nat -> Nat}
theorem std_rot (Z : Std W S th sh ds B) (T : Turn sh π) : Std W S th (fun i => sh (π i)) (fun i => ds (π i)) fun i => B (π i) where
 sub i hi := Z.sub _ (T.lt hi)
 prt := by
  rw [show (i4.flatMap fun i => B (π i)) = (i4.map π).flatMap B from (List.flatMap_map ..).symm]
  exact (T.perm.flatMap_right B).trans Z.prt
 hd i hi := Z.hd _ (T.lt hi)
 hs i hi := Z.hs _ (T.lt hi)
 ef i hi x hx j hj := Int.le_trans (Z.ef _ (T.lt hi) x hx j hj) (T.keep j hj)
theorem std_rots (R : Rots sh ds sh1 ds1 os) : (∃ B, Std W S th sh ds B) -> ∃ B, Std W S th sh1 ds1 B := by
 induction R with
 | nil => exact id
 | cons r _ _ ih => exact fun ⟨B, Z⟩ => ih ⟨_, std_rot Z r⟩
theorem flat_upd {α : Type} {B : Nat -> List α} {x : α} (hu : u < 4) : (i4.flatMap (upd B u (B u ++ [x]))).Perm (i4.flatMap B ++ [x]) := by
 rw [flat4, flat4, List.append_assoc, List.append_assoc, List.append_assoc]
 obtain rfl | rfl | rfl | rfl : u = 0 ∨ u = 1 ∨ u = 2 ∨ u = 3 := by lia
 ·show ((B 0 ++ [x]) ++ (B 1 ++ (B 2 ++ B 3))).Perm _
  rw [List.append_assoc]
  refine List.Perm.append_left _ ?_
  have := @List.perm_append_comm _ [x] (B 1 ++ (B 2 ++ B 3))
  rw [List.append_assoc, List.append_assoc] at this
  exact this
 ·show (B 0 ++ ((B 1 ++ [x]) ++ (B 2 ++ B 3))).Perm _
  rw [List.append_assoc]
  have := @List.perm_append_comm _ [x] (B 2 ++ B 3)
  rw [List.append_assoc] at this
  exact (this.append_left _).append_left _
 ·show (B 0 ++ (B 1 ++ ((B 2 ++ [x]) ++ B 3))).Perm _
  rw [List.append_assoc]
  exact ((List.perm_append_comm.append_left _).append_left _).append_left _
 ·exact .refl _
theorem std_grow (hW : ∀ t i, 0 <= W t i) (Z : Std W S th sh ds B) (hu : u < 4) (hw : wantL sh u = []) : Std W S (th ++ [x]) (gr W sh u x) (gd S ds u x) (upd B u (B u ++ [x])) := by
 refine ⟨fun i hi => ?_, (flat_upd hu).trans (Z.prt.append_right [x]), fun i hi => ?_, fun i hi j => ?_, fun i hi y hy j hj => ?_⟩
 ·by_cases e : i = u
  ·subst e; rw [upd_eq]; exact (Z.sub i hi).append_right [x]
  ·rw [upd_ne e]; exact (Z.sub i hi).trans (List.sublist_append_left _ _)
 ·unfold gd
  by_cases e : i = u
  ·subst e; rw [upd_eq, upd_eq, show tabS S (B i ++ [x]) = tabS S (B i) ++ [(x, S x)] from List.map_append, <- Z.hd i hi]
  ·rw [upd_ne e, upd_ne e]; exact Z.hd i hi
 ·unfold gr
  by_cases e : i = u
  ·subst e
   rw [upd_eq, upd_eq, List.map_append, List.sum_append, <- Z.hs i hi j, Int.add_comm]
   exact congrArg (sh i j + ·) (Int.add_zero _).symm
  ·rw [upd_ne e, upd_ne e]; exact Z.hs i hi j
 ·refine Int.le_trans ?_ (gr_own (sh := sh) (u := u) (x := x) hW j hj)
  unfold gr
  by_cases e : i = u
  ·subst e
   rw [upd_eq, List.getLast?_concat] at hy
   cases hy
   rw [upd_eq]
   have : ¬ sh j j < sh i j := fun h => by
    have := want_iff.mpr ⟨hj, h⟩
    rw [hw] at this; cases this
   show W x j + sh i j - W x j <= sh j j
   lia
  ·rw [upd_ne e] at hy ⊢
   exact Z.ef i hi y hy j hj
theorem std_deal (hW : ∀ t i, 0 <= W t i) (D : Deal W S rest pq sh ds pq' sh' ds' us sn) : ∀ th, pq.Perm i4 -> (∃ B, Std W S th sh ds B) -> ∃ B, Std W S (th ++ rest) sh' ds' B := by
 induction D with
 | nil => exact fun th _ h => by rw [List.append_nil]; exact h
 | @cons x rest pq pq' us sh sh1 sh' ds ds1 ds' os sn R hu D' ih =>
  intro th hp hB
  obtain ⟨B1, Z1⟩ := std_rots R hB
  obtain ⟨hfm, hfw, -⟩ := fu_mem hp hu
  have := ih (th ++ [x]) ((perm_turn hfm).trans hp) ⟨_, std_grow hW Z1 (mem4.mp (hp.mem_iff.mp hfm)) hfw⟩
  rw [List.append_assoc] at this
  exact this
theorem deal_std (hW : ∀ t i, 0 <= W t i) (D : Deal W S line i4 sh0 ds0 pq' sh' ds' us sn) : ∃ B, Std W S line sh' ds' B := std_deal hW D [] (.refl _) ⟨fun _ => [], fun i _ => .slnil, .refl _, fun i _ => rfl, fun i _ j => rfl, fun i _ x hx => nomatch hx⟩
theorem filter_sub {l s : List Str} (h : s.Sublist l) (hn : l.Nodup) : l.filter (fun t => decide (t ∈ s)) = s := by
 induction h with
 | slnil => rfl
 | @cons s l a h ih =>
  have hn := List.nodup_cons.mp hn
  rw [List.filter_cons, if_neg (by rw [decide_eq_true_eq]; exact fun hm => hn.1 (h.subset hm))]
  exact ih hn.2
 | @cons_cons s l a h ih =>
  have hn := List.nodup_cons.mp hn
  rw [List.filter_cons, if_pos (decide_eq_true (.head _))]
  rw [show l.filter (fun t => decide (t ∈ a :: s)) = l.filter fun t => decide (t ∈ s) from List.filter_congr fun t ht => decide_eq_decide.mpr (by
   rw [List.mem_cons]
   exact ⟨fun h => h.resolve_left fun e => hn.1 (e ▸ ht), .inr⟩), ih hn.2]
theorem Std.keys (Z : Std W S line sh ds B) (hk : k < 4) : (ds k).map (·.1) = B k := by
 rw [Z.hd k hk, tabS, List.map_map]
 exact List.map_id _
theorem Std.lot (Z : Std W S line sh ds B) (hn : line.Nodup) (hk : k < 4) : lotL line (ds k) = B k := by
 unfold lotL
 rw [Z.keys hk]
 exact filter_sub (Z.sub k hk) hn
theorem Std.flat (Z : Std W S line sh ds B) (hn : line.Nodup) : (flatL line ds).Perm line := by
 unfold flatL
 rw [flat4, Z.lot hn (by decide), Z.lot hn (by decide), Z.lot hn (by decide), Z.lot hn (by decide), <- flat4]
 exact Z.prt
theorem pair_last {R : Str -> Str -> Prop} (hr : ∀ a, R a a) : ∀ {l : List Str}, l.Pairwise R -> ∀ {x : Str}, l.getLast? = some x -> ∀ t ∈ l, R t x
 | [a], _, x, hx, t, ht => by
  cases hx
  rw [List.mem_singleton.mp ht]; exact hr _
 | a :: b :: l, hp, x, hx, t, ht => by
  have hp := List.pairwise_cons.mp hp
  have hx' : (b :: l).getLast? = some x := hx
  rcases List.mem_cons.mp ht with rfl | ht
  ·exact hp.1 x (List.mem_of_getLast? hx')
  ·exact pair_last hr hp.2 hx' t ht
theorem Std.efx (Z : Std W S line sh ds B) (hF : Falls W line) (hn : line.Nodup) : ∀ p ∈ pairsL line ds, rst W sh p <= own' sh p := fun p hp => by
 obtain ⟨hi, hj, ht⟩ := pairs_mem hp
 rw [Z.lot hn hj] at ht
 cases q : (B p.2.1).getLast? with
 | none => rw [List.getLast?_eq_none_iff.mp q] at ht; cases ht
 | some x =>
  have h1 := Z.ef _ hj x q _ hi
  have h2 := pair_last (R := fun a b => ∀ i, i < 4 -> W b i <= W a i) (fun _ _ _ => Int.le_refl _) (hF.sublist (Z.sub _ hj)) q _ ht _ hi
  unfold rst own'
  lia
end
theorem unlA_nodup : ∀ (ts pre : List Str), ts.Nodup -> (∀ t ∈ ts, t ∉ pre) -> unlA pre ts = ts
 | [], _, _, _ => rfl
 | t :: r, pre, hn, hd => by
  have hn := List.nodup_cons.mp hn
  show (if t ∈ pre then [] else [t]) ++ unlA (pre ++ [t]) r = t :: r
  rw [if_neg (hd t (.head _)), unlA_nodup r (pre ++ [t]) hn.2 fun s hs hm => ?_]
  ·rfl
  ·rcases List.mem_append.mp hm with h | h
   ·exact hd s (.tail _ hs) h
   ·exact hn.1 (List.mem_singleton.mp h ▸ hs)
theorem unlA_old : ∀ (ts pre : List Str), (∀ t ∈ ts, t ∈ pre) -> unlA pre ts = []
 | [], _, _ => rfl
 | t :: r, pre, h => by
  show (if t ∈ pre then [] else [t]) ++ unlA (pre ++ [t]) r = []
  rw [if_pos (h t (.head _)), unlA_old r (pre ++ [t]) fun s hs => List.mem_append_left _ (h s (.tail _ hs))]; rfl
theorem unlA_app : ∀ (xs ys pre : List Str), unlA pre (xs ++ ys) = unlA pre xs ++ unlA (pre ++ xs) ys
 | [], ys, pre => by rw [List.append_nil]; rfl
 | t :: r, ys, pre => by
  show (if t ∈ pre then [] else [t]) ++ unlA (pre ++ [t]) (r ++ ys) = ((if t ∈ pre then [] else [t]) ++ unlA (pre ++ [t]) r) ++ unlA (pre ++ t :: r) ys
  rw [unlA_app r ys (pre ++ [t]), List.append_assoc, List.append_assoc]; rfl
section
variable {W : Str -> Nat -> Int} {S : Str -> Int} {A C ts line : List Str} {sh : Nat -> Nat -> Int} {ds : Nat -> List (Str × Int)} {B : Nat -> List Str} {k : Nat}
theorem count1 (hn : ts.Nodup) {t : Str} (ht : t ∈ ts) : ts.count t = 1 := Nat.le_antisymm (List.nodup_iff_count.mp hn t) (List.count_pos_iff.mpr ht)
theorem tabP_nodup (hn : ts.Nodup) : tabP S ts (unlA [] ts) = tabS S ts := by
 rw [unlA_nodup ts [] hn (fun _ _ h => nomatch h)]
 exact List.map_congr_left fun t ht => by rw [count1 hn ht]; exact congrArg (Prod.mk t) (Int.mul_one _)
theorem keys_tabS (ts : List Str) : (tabS S ts).map (·.1) = ts := by
 unfold tabS
 rw [List.map_map]; exact List.map_id _
theorem addC_new : ∀ (r d : List (Str × Int)), ((d ++ r).map (·.1)).Nodup -> addC d r = d ++ r
 | [], d, _ => (List.append_nil d).symm
 | p :: r, d, h => by
  have hno : p.1 ∉ d.map (·.1) := fun hm => by
   rw [List.map_append, List.map_cons, List.nodup_append] at h
   exact h.2.2 _ hm _ (.head _) rfl
  show addC (updI d p) r = _
  rw [show updI d p = d ++ [p] by unfold updI; rw [lkp_none hno], addC_new r (d ++ [p]) (by rw [List.append_assoc]; exact h), List.append_assoc]; rfl
theorem stt_no {x : Str} {i : Int} : ∀ {Z : List (Str × Int)}, x ∉ Z.map (·.1) -> sttI Z x i = Z := fun {Z} h =>
 (List.map_congr_left fun q hq => if_neg fun e => h (List.mem_map.mpr ⟨q, hq, e⟩)).trans (List.map_id _)
theorem lkp_app {x : Str} {j : Int} : ∀ {X Y : List (Str × Int)}, x ∉ X.map (·.1) -> (X ++ (x, j) :: Y).lookup x = some j
 | [], Y, _ => by rw [List.nil_append, lkp_cons, if_pos rfl]
 | (y, i) :: X, Y, h => by
  rw [List.cons_append, lkp_cons, if_neg (fun e : x = y => h (e ▸ .head _))]
  exact lkp_app fun hm => h (.tail _ hm)
theorem upd_old {X Y : List (Str × Int)} {x : Str} {i j : Int} (h : ((X ++ (x, i) :: Y).map (·.1)).Nodup) : updI (X ++ (x, i) :: Y) (x, j) = X ++ (x, i + j) :: Y := by
 rw [List.map_append, List.map_cons, List.nodup_append] at h
 obtain ⟨-, h2, h3⟩ := h
 have hX : x ∉ X.map (·.1) := fun hm => h3 _ hm _ (.head _) rfl
 unfold updI
 rw [lkp_app hX]
 show sttI (X ++ (x, i) :: Y) x (i + j) = _
 rw [show sttI (X ++ (x, i) :: Y) x (i + j) = sttI X x (i + j) ++ ((if x = x then (x, i + j) else (x, i)) :: sttI Y x (i + j)) from List.map_append, stt_no hX, stt_no (List.nodup_cons.mp h2).1, if_pos rfl]
theorem addC_dbl : ∀ (r X Y : List (Str × Int)), ((X ++ (r ++ Y)).map (·.1)).Nodup -> addC (X ++ (r ++ Y)) r = X ++ (r.map (fun p => (p.1, p.2 + p.2)) ++ Y)
 | [], X, Y, _ => rfl
 | p :: r, X, Y, h => by
  have e : X ++ (p.1, p.2 + p.2) :: (r ++ Y) = (X ++ [(p.1, p.2 + p.2)]) ++ (r ++ Y) := by rw [List.append_assoc]; rfl
  have h' : ((X ++ (p.1, p.2) :: (r ++ Y)).map (·.1)).Nodup := h
  show addC (updI (X ++ (p.1, p.2) :: (r ++ Y)) (p.1, p.2)) r = _
  rw [upd_old h', e, addC_dbl r _ Y (by
   rw [<- e]
   rw [List.map_append] at h ⊢
   exact h), List.append_assoc]; rfl
theorem unl_aba (hn : (A ++ C).Nodup) : unlA [] (A ++ C ++ A) = A ++ C := by
 rw [unlA_app, unlA_nodup (A ++ C) [] hn (fun _ _ h => nomatch h), unlA_old A _ fun t ht => List.mem_append_right _ (List.mem_append_left _ ht), List.append_nil]
theorem jd_two (hn : (A ++ C).Nodup) : addC (tabS S A) (tabS S C) = tabS S (A ++ C) := by
 rw [addC_new _ _ (by rw [List.map_append, keys_tabS, keys_tabS]; exact hn)]
 exact List.map_append.symm
theorem jd_eq (hn : (A ++ C).Nodup) : addC (addC (tabS S A) (tabS S C)) (tabS S A) = tabP S (A ++ C ++ A) (unlA [] (A ++ C ++ A)) := by
 have h2 := addC_dbl (tabS S A) [] (tabS S C) (by rw [List.nil_append, List.map_append, keys_tabS, keys_tabS]; exact hn)
 rw [List.nil_append, List.nil_append] at h2
 rw [jd_two hn, show tabS S (A ++ C) = tabS S A ++ tabS S C from List.map_append, h2, unl_aba hn]
 have hd := List.nodup_append.mp hn
 have ca : ∀ t, (A ++ C ++ A).count t = A.count t + C.count t + A.count t := fun t => by rw [List.count_append, List.count_append]
 unfold tabP tabS
 rw [List.map_append, List.map_map]
 refine congr (congrArg _ (List.map_congr_left fun t ht => ?_)) (List.map_congr_left fun t ht => ?_)
 ·rw [ca, count1 hd.1 ht, List.count_eq_zero.mpr fun hb => hd.2.2 t ht t hb rfl]
  exact congrArg (Prod.mk t) (show S t + S t = S t * 2 by lia)
 ·rw [ca, count1 hd.2.1 ht, List.count_eq_zero.mpr fun ha => hd.2.2 t ha t ht rfl]
  exact congrArg (Prod.mk t) (Int.mul_one _).symm
theorem Std.two (Z : Std W S line sh ds B) (hn : line.Nodup) : ∀ k, k < 4 -> (B k ++ B (prv4 k)).Nodup := by
 have h := Z.prt.nodup_iff.mpr hn
 rw [flat4] at h
 have s := fun {l : List Str} (g : l.Sublist (B 0 ++ (B 1 ++ (B 2 ++ B 3)))) => h.sublist g
 intro k hk
 obtain rfl | rfl | rfl | rfl : k = 0 ∨ k = 1 ∨ k = 2 ∨ k = 3 := by lia
 ·exact s ((List.Sublist.refl _).append ((List.sublist_append_right _ _).trans (List.sublist_append_right _ _)))
 ·exact List.perm_append_comm.nodup_iff.mp (s ((List.Sublist.refl _).append (List.sublist_append_left _ _)))
 ·exact List.perm_append_comm.nodup_iff.mp (s (((List.Sublist.refl _).append (List.sublist_append_left _ _)).trans (List.sublist_append_right _ _)))
 ·exact List.perm_append_comm.nodup_iff.mp (s ((List.sublist_append_right _ _).trans (List.sublist_append_right _ _)))
theorem prv_lt (k : Nat) : prv4 k < 4 := Nat.mod_lt _ (by decide)
theorem tell_eq {w : Nat -> Int} {d : List (Str × Int)} (hw : ∀ j, w j = (ts.map fun t => W t j).sum) (hd : d = tabP S ts (unlA [] ts)) : tellV w d = shareV W S ts := by
 unfold tellV shareV
 rw [hd, csum_eq, Int.zero_add, hw 0, hw 1, hw 2, hw 3]
theorem Std.told (Z : Std W S line sh ds B) (hn : line.Nodup) : (allS sh ds).map tellP = (allL line ds).map (shareV W S) := by
 unfold allS allL
 rw [List.map_append, List.map_append, List.map_map, List.map_map, List.map_map, List.map_map]
 refine congr (congrArg _ (List.map_congr_left fun k hk => ?_)) (List.map_congr_left fun k hk => ?_)
 ·have hk := mem4.mp hk
  show tellV (sh k) (ds k) = shareV W S (lotL line (ds k))
  rw [Z.lot hn hk]
  exact tell_eq (Z.hs k hk) ((Z.hd k hk).trans (tabP_nodup (hn.sublist (Z.sub k hk))).symm)
 ·have hk := mem4.mp hk
  have hp := prv_lt k
  show tellV (jw sh k) (jd ds k) = shareV W S (lot3 line ds k)
  unfold lot3
  rw [Z.lot hn hk, Z.lot hn hp]
  refine tell_eq (fun j => ?_) ?_
  ·unfold jw
   rw [Z.hs k hk, Z.hs _ hp, List.map_append, List.map_append, List.sum_append, List.sum_append]; lia
  ·unfold jd
   rw [Z.hd k hk, Z.hd _ hp]
   exact jd_eq (Z.two hn k hk)
theorem okT_of {d : List (Str × Int)} (e : d.map (·.1) = ts) (hn : ts.Nodup) (hq : ∀ t ∈ ts, isQ t = false) (hl : ts.length <= 400) : OkT d := by
 subst e
 refine ⟨hn, List.all_eq_true.mpr fun p hp => ?_, by rw [List.length_map] at hl; exact hl⟩
 rw [hq p.1 (List.mem_map.mpr ⟨p, hp, rfl⟩)]; rfl
theorem Std.ok (Z : Std W S line sh ds B) (hn : line.Nodup) (hl : line.length = 6) (hq : ∀ t ∈ line, isQ t = false) : OkDs ds := by
 have m2 : ∀ k, k < 4 -> (∀ t ∈ B k ++ B (prv4 k), isQ t = false) /\ (B k ++ B (prv4 k)).length <= 400 := fun k hk => by
  have l1 := (Z.sub k hk).length_le
  have l2 := (Z.sub _ (prv_lt k)).length_le
  refine ⟨fun t ht => ?_, by rw [List.length_append]; lia⟩
  rcases List.mem_append.mp ht with h | h
  ·exact hq t ((Z.sub k hk).subset h)
  ·exact hq t ((Z.sub _ (prv_lt k)).subset h)
 refine ⟨fun k hk => ?_, fun k hk => ?_, fun k hk => ?_⟩
 ·exact okT_of (Z.keys hk) (hn.sublist (Z.sub k hk)) (fun t ht => (m2 k hk).1 t (List.mem_append_left _ ht)) (by have := (Z.sub k hk).length_le; lia)
 ·rw [Z.hd k hk, Z.hd _ (prv_lt k)]
  exact okT_of (by rw [jd_two (Z.two hn k hk), keys_tabS]) (Z.two hn k hk) (m2 k hk).1 (m2 k hk).2
 ·unfold jd
  rw [Z.hd k hk, Z.hd _ (prv_lt k), jd_eq (Z.two hn k hk), unl_aba (Z.two hn k hk)]
  exact okT_of (by unfold tabP; rw [List.map_map]; exact List.map_id _) (Z.two hn k hk) (m2 k hk).1 (m2 k hk).2
end
theorem every_mem (st : Nat) : ∀ (n : Nat) (l : List Int), ∀ x ∈ everyI st n l, x ∈ l
 | _, [], x, h => by cases ‹Nat› <;> cases h
 | 0, v :: vs, x, h => by
  rcases List.mem_cons.mp h with rfl | h
  ·exact .head _
  ·exact .tail _ (every_mem st (st - 1) vs x h)
 | n + 1, v :: vs, x, h => .tail _ (every_mem st n vs x h)
theorem every_len (st : Nat) : ∀ (n : Nat) (l : List Int), (everyI st n l).length <= l.length
 | _, [] => by cases ‹Nat› <;> exact Nat.le_refl _
 | 0, v :: vs => Nat.succ_le_succ (every_len st (st - 1) vs)
 | n + 1, v :: vs => Nat.le_succ_of_le (every_len st n vs)
theorem sum_abs {M : Nat} : ∀ {l : List Int}, (∀ x ∈ l, x.natAbs <= M) -> l.sum.natAbs <= l.length * M
 | [], _ => Nat.zero_le _
 | x :: l, h => by
  rw [List.sum_cons, List.length_cons, Nat.succ_mul, Nat.add_comm]
  exact Nat.le_trans (Int.natAbs_add_le _ _) (Nat.add_le_add (h x (.head _)) (sum_abs fun y hy => h y (.tail _ hy)))
noncomputable def M0 : Nat := 2 ^ 1048576
theorem pow_le {a b : Nat} (h : a <= b) : 2 ^ a <= 2 ^ b := Nat.pow_le_pow_right (by decide) h
theorem M0_le : 2 ^ 23 <= M0 := by
 unfold M0
 exact pow_le (by decide)
theorem pow_three {a b c : Nat} (h : a + b < c) : 2 ^ a * 2 ^ b < 2 ^ c := by
 rw [<- Nat.pow_add]
 exact Nat.pow_lt_pow_right (by decide) h
theorem M0_big {n : Nat} (h : n <= 2 ^ 9 * M0) : n < big := by
 unfold M0 at h
 unfold big
 exact Nat.lt_of_le_of_lt h (pow_three (by decide))
theorem first_abs (k : Nat) : (firstL.getD k 0).natAbs <= 2 ^ 23 := by
 rw [List.getD_eq_getElem?_getD]
 cases h : firstL[k]? with
 | none => exact Nat.zero_le _
 | some x => exact (by decide : ∀ x ∈ firstL, x.natAbs <= 2 ^ 23) x (List.mem_of_getElem? h)
theorem cell_abs {is : List Int} (hl : is.length <= 63) (hi : ∀ i ∈ is, i.natAbs < M0) (k : Nat) : (cc is k).natAbs <= 64 * M0 := by
 have h1 : ((everyI 25 0 (is.drop k)).sum).natAbs <= 63 * M0 :=
  Nat.le_trans (sum_abs (M := M0) fun x hx => Nat.le_of_lt (hi x (List.mem_of_mem_drop (every_mem _ _ _ x hx)))) (Nat.mul_le_mul_right _ (Nat.le_trans (every_len _ _ _) (by rw [List.length_drop]; exact Nat.le_trans (Nat.sub_le _ _) hl)))
 refine Nat.le_trans (Int.natAbs_add_le _ _) (Nat.le_trans (Nat.add_le_add (Nat.le_trans (first_abs k) M0_le) h1) ?_)
 generalize M0 = M
 lia
theorem mul_le {n : Nat} (h : n <= 2 ^ 9) : n * M0 <= 2 ^ 9 * M0 := Nat.mul_le_mul_right _ h
theorem cell_big {c : Nat -> Int} (h : ∀ k, (c k).natAbs <= 64 * M0) (k : Nat) : (c k).natAbs < big := M0_big (Nat.le_trans (h k) (mul_le (by decide)))
theorem abs_add {M n m : Nat} {x y : Int} (h1 : x.natAbs <= n * M) (h2 : y.natAbs <= m * M) : (x + y).natAbs <= (n + m) * M := Nat.le_trans (Int.natAbs_add_le _ _) (by rw [Nat.add_mul]; exact Nat.add_le_add h1 h2)
theorem tot_abs {c : Nat -> Int} (h : ∀ k, (c k).natAbs <= 64 * M0) (k : Nat) : (tot c k).natAbs < big := by
 have h0 : (0 : Int).natAbs <= 0 * M0 := Nat.zero_le _
 have h1 := abs_add (h (1 + 4 * k + 0)) (abs_add (h (1 + 4 * k + 1)) (abs_add (h (1 + 4 * k + 2)) (abs_add (h (1 + 4 * k + 3)) h0)))
 have h2 : (tot c k).natAbs <= (64 + (64 + (64 + (64 + 0)))) * M0 := h1
 generalize (tot c k).natAbs = n at h2
 exact M0_big (Nat.le_trans h2 (mul_le (by decide)))
noncomputable def Run (k : Nat) (ls cs : List V) (t : Bool) (os : List O) : Prop := ∃ fr σ, exL (lv 118) (b213.drop k) (fr213 ls) (ST t cs os) = some ((.ret (.bool true), fr), σ) /\ σ.take 1 = [.tab true]
theorem drop_at {k : Nat} (hk : k < 42) : b213.drop k = s213 k :: b213.drop (k + 1) := by
 have hl : k < b213.length := hk
 rw [List.drop_eq_getElem_cons hl]
 have es : b213[k] = s213 k := by
  unfold s213 stL
  rw [List.getD_eq_getElem?_getD, List.getElem?_eq_getElem hl]; rfl
 rw [es]
theorem run_step {k j : Nat} {ls cs ls' cs' : List V} {t t' : Bool} {os os' : List O} (hk : (decide (k < 42) && (k + 1 == j)) = true) (h : Step k ls cs t os ls' cs' t' os') (r : Run j ls' cs' t' os') : Run k ls cs t os := by
 rw [Bool.and_eq_true, beq_iff_eq] at hk
 obtain ⟨hk, rfl⟩ := hk
 obtain ⟨fr, σ, e, g⟩ := r
 refine ⟨fr, σ, ?_, g⟩
 rw [drop_at (of_decide_eq_true hk)]
 exact xNx h e
theorem run_end {ls cs : List V} {t : Bool} {os : List O} {fr : Fr} {σ : List O} (h : exStep (lv 118) (s213 41) (fr213 ls) (ST t cs os) = some ((.ret (.bool true), fr), σ)) (g : σ.take 1 = [.tab true]) : Run 41 ls cs t os := ⟨fr, σ, by rw [drop_at (by decide)]; exact exL_ret h, g⟩
theorem plain (is : List Int) (hl : is.length <= 63) (hi : ∀ i ∈ is, i.natAbs < M0) : law is = some (.bool true, [.tab true]) := by
 have hc := cell_abs hl hi
 have key : Run 0 [] [.list (is.map .int)] false [] := by
  refine run_step (by rfl) x0 (run_step (by rfl) x1 (run_step (j := 3) (by rfl) x2 ?_))
  generalize cc is = c at hc ⊢
  generalize V.list (is.map .int) = a
  have hb := cell_big hc
  have hS : ∀ t ∈ nameL, (Sf c t).natAbs < big := fun t _ => tot_abs hc _
  have hW := W_nn c
  have hn := line_nodup c
  obtain ⟨k, pq, sh, ds, us, sn, D, hk, h21⟩ := x21 (c := c) (a := a)
  obtain ⟨u, v, hu, hv, rfl, rfl⟩ := deal_us hW (line_len c) D
  obtain ⟨hG, g1, g2⟩ := deal_grow hW (line_len c) D
  obtain ⟨B, Z⟩ := deal_std hW D
  have ok := Z.ok hn (line_len c) fun t ht => nm_q t (line_mem c t ht)
  refine run_step (by rfl) (x3 hb) (run_step (by rfl) x4 (run_step (by rfl) x5 (run_step (by rfl) x6 (run_step (by rfl) x7 (run_step (by rfl) x8 (run_step (by rfl) x9 (run_step (by rfl) x10 (run_step (by rfl) x11 (run_step (j := 13) (by rfl) x12 ?_)))))))))
  refine run_step (by rfl) x13 (run_step (by rfl) x14 (run_step (by rfl) x15 (run_step (by rfl) x16 (run_step (by rfl) x17 (run_step (by rfl) x18 (run_step (by rfl) x19 (run_step (by rfl) x20 (run_step (j := 22) (by rfl) h21 ?_))))))))
  refine run_step (by rfl) (x22 hk) (run_step (by rfl) x23 (run_step (by rfl) (x24 ok) (run_step (by rfl) (x25 ok) (run_step (by rfl) (x26 hb) (run_step (by rfl) x27 (run_step (by rfl) (x28 hS (Z.told hn)) (run_step (by rfl) (x29 ((Z.flat hn).trans ((line_perm c).trans (words_perm (c 0))))) (run_step (by rfl) x30 (run_step (j := 32) (by rfl) x31 ?_)))))))))
  refine run_step (by rfl) (x32 hu hv) (run_step (by rfl) (x33 hu hv) (run_step (by rfl) x34 (run_step (by rfl) x35 (run_step (by rfl) (x36 hG g2 g1) (run_step (by rfl) x37 (run_step (by rfl) x38 (run_step (by rfl) x39 (run_step (j := 41) (by rfl) x40 ?_))))))))
  exact run_end (x41 (a := a) (k := k) (u := u) (v := v) (sn := sn) (Z.efx (line_falls c) hn)) (by kernel_rfl)
 obtain ⟨fr, σ, e, g⟩ := key
 refine Eq.trans (b := (exL (lv 118) (b213.drop 0) (fr213 []) >>= fun r => endFn false [.tab false] (flV r.1)) (ST false [.list (is.map .int)] [])) (by kernel_rfl) (bindR e ?_)
 show some (V.bool true, σ.take 1) = _
 rw [g]
end Mine
end
section
open PySem PySem.W PyProof.Rows PySem.Calls
open PySem.Builtin PySem.Builtin.ObjectAttr PySem.Builtin.Getset_descriptor
set_option linter.deprecated false
namespace Mine
universe u
theorem nS {α : Type u} {a : α} {P : Prop} (h : none = some a) : P := nomatch h
theorem fT {P : Prop} (h : false = true) : P := nomatch h
local macro_rules | `(tactic| cases $h:ident) => `(tactic| first | exact Mine.nS $h | exact Mine.fT $h | cases ($h))
noncomputable abbrev prg : Program := PySem.Challenge.rw_jc0010_01.row.prog
inductive Sh where
 | ns (bs : List (Str × Value))
 | list (vs : List Value)
 | tup (vs : List Value)
 | dict (kvs : List (Str × Value))
 | cell (v : Option Value)
 | flds (T : String) (vs : List Value)
 | exact (o : Obj)
noncomputable def NsObj (o : Obj) (m : Str -> Option Value) : Prop := ∃ es ep, o.data = .dict es ep /\ StrKeys es /\ ∀ name, nsFind es name = m name
noncomputable def Sh.ok (w : World) : Sh -> Obj -> Prop
 | .ns bs, o => NsObj o fun y => bs.lookup y
 | .list vs, o => vs.length <= 100000 /\ ∃ n, o = { cls := .type "list", data := .seq vs.toArray n }
 | .tup vs, o => ∃ n, o = { cls := .type "tuple", data := .seq vs.toArray n }
 | .dict kvs, o => o.IsDictOf (strKind prg w) kvs
 | .cell v, o => o.data = .cell v
 | .flds T vs, o => o.cls = .type T /\ o.data = .fields vs.toArray
 | .exact o', o => o = o'
noncomputable def Has (w : World) (h : Heap) (a : Addr) (sh : Sh) : Prop := ∃ o, h.get? a = some o /\ sh.ok w o
noncomputable abbrev Ext (h h' : Heap) : Prop := ∀ b o, h.get? b = some o -> h'.get? b = some o
theorem Ext.rfl {h : Heap} : Ext h h := fun _ _ e => e
theorem Ext.trans {h h' h'' : Heap} (x : Ext h h') (y : Ext h' h'') : Ext h h'' := fun b o e => y b o (x b o e)
theorem Has.mono {w : World} {h h' : Heap} {a : Addr} {sh : Sh} (x : Has w h a sh) (k : Ext h h') : Has w h' a sh := let ⟨o, e, r⟩ := x; ⟨o, k _ _ e, r⟩
structure St (w : World) (h₀ h : Heap) (l : List (Addr × Sh)) : Prop where
 keep : Ext h₀ h
 own : ∀ p ∈ l, Has w h p.1 p.2
 nd : (l.map (·.1)).Nodup
 new : ∀ p ∈ l, h₀.get? p.1 = none
 pos : ∀ p ∈ l, p.1 ≠ 1
 three : h₀.get? 3 ≠ none
inductive Rep (a : Addr) (x x' : Sh) : List (Addr × Sh) -> List (Addr × Sh) -> Prop
 | head {r} : Rep a x x' ((a, x) :: r) ((a, x') :: r)
 | tail {p r r'} : Rep a x x' r r' -> Rep a x x' (p :: r) (p :: r')
theorem Rep.addr {a x x' l l'} (r : Rep a x x' l l') : l'.map (·.1) = l.map (·.1) := by
 induction r with
 | head => rfl
 | tail _ ih => simp only [List.map_cons, ih]
theorem Rep.mem {a x x' l l'} (r : Rep a x x' l l') : (a, x) ∈ l := by
 induction r with
 | head => exact .head _
 | tail _ ih => exact .tail _ ih
theorem Rep.mem' {a x x' l l'} (r : Rep a x x' l l') (hn : (l.map (·.1)).Nodup) : ∀ p ∈ l', p = (a, x') ∨ (p ∈ l /\ p.1 ≠ a) := by
 induction r with
 | head =>
  intro p hp
  rcases List.mem_cons.mp hp with rfl | hp
  ·exact .inl rfl
  ·refine .inr ⟨.tail _ hp, fun e => ?_⟩
   rw [List.map_cons, List.nodup_cons] at hn
   exact hn.1 (List.mem_map.mpr ⟨p, hp, e⟩)
 | tail r ih =>
  rename_i q r1 r2
  intro p hp
  rw [List.map_cons, List.nodup_cons] at hn
  rcases List.mem_cons.mp hp with rfl | hp
  ·refine .inr ⟨.head _, fun e => hn.1 ?_⟩
   exact List.mem_map.mpr ⟨_, r.mem, e.symm⟩
  ·rcases ih hn.2 p hp with h | ⟨h, h2⟩
   ·exact .inl h
   ·exact .inr ⟨.tail _ h, h2⟩
inductive Take (p : Addr × Sh) : List (Addr × Sh) -> List (Addr × Sh) -> Prop
 | head {r} : Take p (p :: r) r
 | tail {q r r'} : Take p r r' -> Take p (q :: r) (q :: r')
theorem Take.perm {p l l'} (t : Take p l l') : l.Perm (p :: l') := by
 induction t with
 | head => exact .refl _
 | tail _ ih => exact (List.Perm.cons _ ih).trans (List.Perm.swap _ _ _)
section
variable {w : World} {h₀ h h' : Heap} {l l' : List (Addr × Sh)} {a : Addr} {x x' : Sh}
theorem St.lt (S : St w h₀ h l) {p} (hp : p ∈ l) : p.1 < h.objs.size := let ⟨_, e, _⟩ := S.own p hp; Heap.lt_size e
theorem St.has (S : St w h₀ h l) (hm : (a, x) ∈ l) : Has w h a x := S.own _ hm
theorem St.frz (S : St w h₀ h l) (f : Has w h₀ a x) : Has w h a x := f.mono S.keep
theorem fresh0 (k : Ext h₀ h) : h₀.get? h.objs.size = none := by
 cases q : h₀.get? h.objs.size with
 | none => rfl
 | some o => exact absurd (Heap.lt_size (k _ _ q)) (Nat.lt_irrefl _)
theorem fresh0' (k : Ext h₀ h) {a : Addr} (ha : h.objs.size <= a) : h₀.get? a = none := by
 cases q : h₀.get? a with
 | none => rfl
 | some o => exact absurd (Nat.lt_of_lt_of_le (Heap.lt_size (k _ _ q)) ha) (Nat.lt_irrefl _)
theorem St.keeps (S : St w h₀ h l) (k : Ext h h') : St w h₀ h' l := ⟨S.keep.trans k, fun p hp => (S.own p hp).mono k, S.nd, S.new, S.pos, S.three⟩
theorem St.sub (S : St w h₀ h l) (hs : ∀ p ∈ l', p ∈ l) (hn : (l'.map (·.1)).Nodup) : St w h₀ h l' := ⟨S.keep, fun p hp => S.own p (hs p hp), hn, fun p hp => S.new p (hs p hp), fun p hp => S.pos p (hs p hp), S.three⟩
theorem St.perm (S : St w h₀ h l) (hp : l.Perm l') : St w h₀ h l' := S.sub (fun p hq => hp.symm.subset hq) ((hp.map (·.1)).nodup S.nd)
theorem St.tail {p} (S : St w h₀ h (p :: l)) : St w h₀ h l := S.sub (fun _ h => .tail _ h) (List.nodup_cons.mp S.nd).2
theorem St.drop {p} (S : St w h₀ h (l' ++ p :: l)) : St w h₀ h (l' ++ l) := by
 have : (l' ++ p :: l).Perm (p :: (l' ++ l)) := List.perm_middle
 exact (S.perm this).tail
theorem St.right (S : St w h₀ h (l' ++ l)) : St w h₀ h l := by
 induction l' with
 | nil => exact S
 | cons p r ih => exact ih S.tail
theorem St.size1 (S : St w h₀ h l) : h.objs.size ≠ 1 := by
 intro e
 cases q : h₀.get? 3 with
 | none => exact S.three q
 | some o => exact absurd (Heap.lt_size (S.keep _ _ q)) (by show ¬ (3 < h.objs.size); rw [e]; decide)
theorem St.push (S : St w h₀ h l) {o : Obj} (hx : x.ok w o) (hf : o.isFreed = false) : St w h₀ (h.push o) ((h.objs.size, x) :: l) := by
 have k : Ext h (h.push o) := fun b o' e => Heap.get?_push_of_some _ e
 refine ⟨S.keep.trans k, fun p hp => ?_, ?_, fun p hp => ?_, fun p hp => ?_, S.three⟩
 ·rcases List.mem_cons.mp hp with rfl | hp
  ·exact ⟨o, Heap.get?_push_size _ hf, hx⟩
  ·exact (S.own p hp).mono k
 ·rw [List.map_cons, List.nodup_cons]
  refine ⟨fun hm => ?_, S.nd⟩
  obtain ⟨p, hp, e⟩ := List.mem_map.mp hm
  exact absurd (S.lt hp) (by rw [e]; exact Nat.lt_irrefl _)
 ·rcases List.mem_cons.mp hp with rfl | hp
  ·exact fresh0 S.keep
  ·exact S.new p hp
 ·rcases List.mem_cons.mp hp with rfl | hp
  ·exact S.size1
  ·exact S.pos p hp
theorem St.set (S : St w h₀ h l) (r : Rep a x x' l l') (hs : Heap.SameBut a h h') (hx : Has w h' a x') : St w h₀ h' l' := by
 have ha : h₀.get? a = none := S.new _ r.mem
 refine ⟨fun b o e => ?_, fun p hp => ?_, by rw [r.addr]; exact S.nd, fun p hp => ?_, fun p hp => ?_, S.three⟩
 ·exact hs.extBut b o (fun q => by rw [q, ha] at e; cases e) (S.keep b o e)
 ·rcases r.mem' S.nd p hp with rfl | ⟨hp, hne⟩
  ·exact hx
  ·obtain ⟨o, e, q⟩ := S.own p hp
   exact ⟨o, hs.extBut _ _ hne e, q⟩
 ·rcases r.mem' S.nd p hp with rfl | ⟨hp, _⟩
  ·exact ha
  ·exact S.new p hp
 ·rcases r.mem' S.nd p hp with rfl | ⟨hp, _⟩
  ·exact S.pos (a, x) r.mem
  ·exact S.pos p hp
theorem St.extBut (S : St w h₀ h (l' ++ (a, x) :: l)) (hs : Heap.ExtBut a h h') : St w h₀ h' (l' ++ l) := by
 have Sd := S.drop
 have hne : ∀ p ∈ l' ++ l, p.1 ≠ a := fun p hp e => by
  have hn := S.nd
  have hp' := (List.perm_middle (l₁ := l') (l₂ := l) (a := (a, x))).map (·.1)
  have := hp'.nodup hn
  rw [List.map_cons, List.nodup_cons] at this
  exact this.1 (List.mem_map.mpr ⟨p, hp, e⟩)
 have ha : h₀.get? a = none := S.new (a, x) (by simp)
 exact ⟨fun b o e => hs b o (fun q => by rw [q, ha] at e; cases e) (S.keep b o e), fun p hp => let ⟨o, e, q⟩ := Sd.own p hp; ⟨o, hs _ _ (hne p hp) e, q⟩, Sd.nd, Sd.new, Sd.pos, Sd.three⟩
theorem St.gone (S : St w h₀ h l) (t : Take (a, x) l l') (hs : Heap.ExtBut a h h') : St w h₀ h' l' := (St.extBut (l' := []) (S.perm t.perm) hs)
theorem St.freeze {l₁ : List (Addr × Sh)} (S : St w h₀ h (l₁ ++ l)) : ∃ h₁, Ext h₀ h₁ /\ St w h₁ h l /\ ∀ p ∈ l₁, Has w h₁ p.1 p.2 := by
 refine ⟨hideAll h (l.map (·.1)), fun b o e => ?_, ⟨fun b o e => of_hideAll _ e, fun p hp => S.own p (List.mem_append_right _ hp), ?_, fun p hp => hideAll_none _ (List.mem_map_of_mem hp), fun p hp => S.pos p (List.mem_append_right _ hp), ?_⟩, fun p hp => ?_⟩
 ·refine hideAll_get _ (S.keep b o e) fun hm => ?_
  obtain ⟨p, hp, q⟩ := List.mem_map.mp hm
  rw [<- q, S.new p (List.mem_append_right _ hp)] at e; cases e
 ·have := S.nd
  rw [List.map_append] at this
  exact (List.nodup_append.mp this).2.1
 ·cases q : h₀.get? 3 with
  | none => exact absurd q S.three
  | some o =>
   rw [hideAll_get _ (S.keep _ _ q)]
   ·simp
   ·intro hm
    obtain ⟨p, hp, e⟩ := List.mem_map.mp hm
    have := S.new p (List.mem_append_right _ hp)
    rw [e, q] at this; cases this
 ·obtain ⟨o, e, q⟩ := S.own p (List.mem_append_left _ hp)
  refine ⟨o, hideAll_get _ e fun hm => ?_, q⟩
  have := S.nd
  rw [List.map_append] at this
  exact (List.nodup_append.mp this).2.2 _ (List.mem_map_of_mem hp) _ hm rfl
theorem Has.list {vs : List Value} (x : Has w h a (.list vs)) : h.IsList a vs.toArray := by
 obtain ⟨o, e, -, n, rfl⟩ := x; exact ⟨_, e, rfl, n, rfl⟩
theorem Has.len {vs : List Value} (x : Has w h a (.list vs)) : vs.length <= 100000 := let ⟨_, _, r, _⟩ := x; r
theorem Has.tup {vs : List Value} (x : Has w h a (.tup vs)) : IsTup h a vs.toArray := by
 obtain ⟨o, e, n, rfl⟩ := x; exact ⟨_, e, rfl, n, rfl⟩
theorem Has.dict {kvs} (x : Has w h a (.dict kvs)) : h.DictOf (strKind prg w) a kvs := Heap.dictOf_iff.mpr x
theorem Has.ns {bs} (x : Has w h a (.ns bs)) : h.Ns a (fun y => bs.lookup y) := let ⟨o, e, es, ep, hd, r⟩ := x; ⟨o, es, ep, e, hd, r⟩
theorem Has.cell {v} (x : Has w h a (.cell v)) : h.IsCell a v := x
theorem Has.get {o} (x : Has w h a (.exact o)) : h.get? a = some o := by obtain ⟨o', e, rfl⟩ := x; exact e
theorem has_ns {m : Str -> Option Value} {bs : List (Str × Value)} (x : h.Ns a m) (e : ∀ y, m y = bs.lookup y) : Has w h a (.ns bs) := let ⟨o, es, ep, q, hd, k, r⟩ := x; ⟨o, q, es, ep, hd, k, fun y => (r y).trans (e y)⟩
theorem has_dict {kvs} (x : h.DictOf (strKind prg w) a kvs) : Has w h a (.dict kvs) := Heap.dictOf_iff.mp x
end
noncomputable def obK (K : Frag) (a : Addr) : Obj := (List.lookup a K).getD default
noncomputable def fdOf (o : Obj) : FuncData := match o.data with | .func fd => fd | _ => default
noncomputable def BindN : Nat -> (List Value -> Prop) -> Prop
 | 0, P => P []
 | n + 1, P => ∀ a, BindN n fun l => P (a :: l)
theorem bindN {P : List Value -> Prop} {n : Nat} (h : BindN n P) : ∀ l, l.length = n -> P l := by
 induction n generalizing P with
 | zero => intro l e; rw [List.eq_nil_of_length_eq_zero e]; exact h
 | succ n ih =>
  intro l e
  cases l with
  | nil => cases e
  | cons a l => exact ih (h a) l (Nat.succ.inj e)
structure FnF (K : Frag) (f : Addr) (fi : FnI) : Prop where
 ob : List.lookup f K = some { obK K f with data := .func (fdOf (obK K f)) }
 body : (fdOf (obK K f)).body = .stmts fi.body
 scope : (fdOf (obK K f)).scope = fi.scope
 globals : (fdOf (obK K f)).globals = mainGlobals
 builtins : (fdOf (obK K f)).builtins = builtinsNs
 closure : (fdOf (obK K f)).closure = []
 code : codeIn K (fdOf (obK K f)).code (fdOf (obK K f)).qualname = true
 co : fi.scope.isCoroutine = false
 gen : fi.scope.isGenerator = false
 kind : fi.scope.kind = .function
 bind : BindN fi.ps.length fun as => bindArgs (fdOf (obK K f)) ⟨as, []⟩ = pure (fi.ps.zip as)
noncomputable def GlobOk (K : Frag) (p : Str × Value) : Prop :=
 nsIn K mainGlobals p.1 = some (some p.2) ∨ (nsIn K mainGlobals p.1 = some none /\ bootBuiltins p.1 = some p.2 /\ p.1 ≠ ("__name__" : Str))
structure AttF (K : Frag) (C : Addr) (a : Str) : Prop where
 get : plainGet K C a = true
 dict : hasDictIn K C = true
 find : findIn K (.ref C) a = some none
 set : findIn K (.ref C) "__setattr__" = some (some (.builtin "object.__setattr__"))
 over : plainOver K C = true
 taker : takerIn K C a = some none
structure MethF (K : Frag) (C : Addr) (m : Str) (f : Addr) : Prop where
 get : plainGet K C m = true
 find : findIn K (.ref C) m = some (some (.ref f))
 fn : isFn K (.ref f) = true
 keep : keepIn K (.ref f) = true
structure ClsF (K : Frag) (C i : Addr) : Prop where
 makes : makesIn K C = true
 init : findIn K (.ref C) "__init__" = some (some (.ref i))
 fn : typeIn K (.ref i) = some (.type "function")
noncomputable def keepB (K : Frag) : Value -> Bool
 | .builtin _ => true
 | .type _ => true
 | v => keepIn K v
structure Facts (K : Frag) : Prop where
 fn : ∀ p ∈ fnTab, ∀ fi, p.2 = some fi -> FnF K p.1 fi
 glob : ∀ p ∈ globs, GlobOk K p
 nb : nsIn K mainGlobals "__builtins__" = some (some (.ref 4))
 att : ∀ p ∈ attList, AttF K p.1 p.2
 meth : ∀ p ∈ methTab, MethF K p.1.1 p.1.2 p.2
 cls : ∀ p ∈ initTab, ClsF K p.1 p.2
 keep : globs.all (fun p => keepB K p.2) = true
 hc : ∃ o, List.lookup 160 K = some o /\ o.cls = .type "code" /\ ∃ vs, o.data = .fields vs /\ vs[11]? = some (.ref 156) /\ vs.getD 11 .none = .ref 156 /\ (∃ file tf, vs.getD 18 .none = .str file tf) /\ (∃ a b, vs.getD 7 .none = .int a b) /\ (∃ b, vs.getD 9 .none = .bool b) /\ (∃ a b, vs.getD 10 .none = .int a b)
 c161 : (fdOf (obK K 161)).code = .ref 160 /\ (fdOf (obK K 161)).qualname = attS "_law_stream"
 nbk : nsIn K cStatics sharingNotToldKey = some none
 rc : plainGet K 101 "_read_char" = true /\ hasDictIn K 101 = true /\ findIn K (.ref 101) "_read_char" = some (some (.ref 84)) /\ typeIn K (.ref 84) = some (.type "function") /\ specialIn K (.ref 84) "__get__" = some (some (.builtin "function.__get__")) /\ takesIn K (.ref 84) = some false
structure Tp (w : World) (h : Heap) : Prop where
 X : ∃ K : Frag, K.In h /\ Facts K
 g : ∃ mg, h.Ns mainGlobals mg
 b : ∃ mb, h.Ns builtinsNs mb /\ ∀ x : Str, x ≠ "__name__" -> mb x = bootBuiltins x
 nolimit : h.NoLimit
 bm : ∃ ob, h.get? 4 = some ob /\ ob.cls = .type "module" /\ ob.dict = some builtinsNs /\ ob.data = .plain
theorem Tp.mono {w : World} {h h' : Heap} (T : Tp w h) (k : Ext h h') : Tp w h' :=
 ⟨let ⟨K, x, f⟩ := T.X; ⟨K, x.keeps k, f⟩, let ⟨m, x⟩ := T.g; ⟨m, x.keeps k⟩, let ⟨m, x, y⟩ := T.b; ⟨m, x.keeps k, y⟩, T.nolimit.keeps k, let ⟨o, e, r⟩ := T.bm; ⟨o, k _ _ e, r⟩⟩
theorem lkMem {α β : Type} [BEq α] [LawfulBEq α] {x : α} {c : β} {l : List (α × β)} (h : l.lookup x = some c) : (x, c) ∈ l := by
 induction l with
 | nil => cases h
 | cons p r ih =>
  rw [List.lookup_cons] at h
  split at h
  ·rename_i q; cases h; rw [eq_of_beq q]; exact .head _
  ·exact .tail _ (ih h)
theorem Facts.at {K : Frag} (F : Facts K) {f : Addr} {fi : FnI} (h : fnAt f = some fi) : FnF K f fi := by
 unfold fnAt at h
 cases q : fnTab.lookup f with
 | none => rw [q] at h; cases h
 | some o => rw [q] at h; exact F.fn _ (lkMem q) _ h
structure Ok (n : Nat) (A : Around) : Prop where
 hh : A.handled = none
 depth : A.depth + 4 * n < 1000
 units : A.units + 40 * n < 9900
theorem Ok.le {n m : Nat} {A : Around} (x : Ok n A) (h : m <= n) : Ok m A := ⟨x.hh, by have := x.depth; lia, by have := x.units; lia⟩
theorem Ok.deeper {n : Nat} {A : Around} {env : Env} (x : Ok (n + 1) A) : Ok n (A.deeper env) := ⟨x.hh, by have := x.depth; show A.depth + 1 + 4 * n < 1000; lia, by have := x.units; show A.units + 3 + 40 * n < 9900; lia⟩
theorem Ok.room {n : Nat} {A : Around} (x : Ok n A) : A.depth < recursionLimit := by have := x.depth; show A.depth < 1000; lia
section
variable {w : World} {h₀ h : Heap} {l : List (Addr × Sh)} {prog : Program} {A : Around} {s : Shared}
theorem st_put {x : Str} {v : Value} {bs : List (Str × Value)} (y : Str) : (if y = x then some v else bs.lookup y) = ((x, v) :: bs).lookup y := by
 rw [List.lookup_cons]
 by_cases e : y = x
 ·subst e; simp
 ·rw [if_neg e]; have : (y == x) = false := by simpa using e
  rw [this]
end
section
variable {w : World} {h₀ : Heap} {l l' : List (Addr × Sh)} {M : Model} {A : Around} {E : Value -> Shared -> Prop} {s : Shared} {env : Env} {x : Str} {pos : Pos} {v : Value} {bs : List (Str × Value)} {c : Addr}
theorem storeL {Q : Unit -> Shared -> Prop} (S : St w h₀ s.heap l) (hl : env.kindOf x = some .local) (r : Rep env.locals (.ns bs) (.ns ((x, v) :: bs)) l l')
  (h : ∀ h', St w h₀ h' l' -> Q () { s with heap := h', toks := s.toks + 1 })
  (hp : (env.scope.kind == .class || (env.scope.kind == .module && env.locals != env.globals)) = false) : wpAny M A (storeName env x v) Q E s :=
 wpAny_storeName_local hl (S.has r.mem).ns (fun h' hn hs => h h' (S.set r hs (has_ns hn st_put))) hp
theorem storeC {v₀ : Option Value} {Q : Unit -> Shared -> Prop} (S : St w h₀ s.heap l) (hl : env.kindOf x = some .cell) (hc : env.cells.lookup x = some c) (r : Rep c (.cell v₀) (.cell (some v)) l l')
  (h : ∀ h', St w h₀ h' l' -> Q () { s with heap := h' })
  (hk : env.scope.kind = .function := by rfl) : wpAny M A (storeName env x v) Q E s :=
 wpAny_storeName_cell hk hl hc (S.has r.mem).cell (fun h' hv hs => h h' (S.set r hs hv))
noncomputable def In2 (w : World) (h₀ : Heap) (l : List (Addr × Sh)) (a : Addr) (x : Sh) : Prop := (a, x) ∈ l ∨ Has w h₀ a x
theorem In2.has {w h₀ l a x} {h : Heap} (i : In2 w h₀ l a x) (S : St w h₀ h l) : Has w h a x := i.elim S.has S.frz
end
theorem sz {n : Nat} (h : n <= 100000) : n <= sizeLine := by rw [sizeLine_eq]; lia
section
variable {w : World} {h₀ : Heap} {l l' : List (Addr × Sh)} {A : Around} {E : Value -> Shared -> Prop} {s : Shared} {env : Env} {x : Str} {pos : Pos} {v : Value} {bs : List (Str × Value)} {c a b : Addr} {vs ws : List Value}
 {i : Int} {u : Tok} {slice value : Expr}
theorem newListS {Q : Value -> Shared -> Prop} (S : St w h₀ s.heap l) (hz : vs.length <= 100000) (h : ∀ a h', St w h₀ h' ((a, .list vs) :: l) -> Q (.ref a) { s with heap := h' }) : wpAny (model prg w) A (newList vs) Q E s :=
 wpAny_newObj_type (h _ _ (S.push ⟨hz, _, rfl⟩ rfl)) (by show vs.toArray.size <= sizeLine; rw [List.size_toArray]; exact sz hz)
theorem newTupleS {Q : Value -> Shared -> Prop} (S : St w h₀ s.heap l) (hz : vs.length <= 100000) (h : ∀ a h', St w h₀ h' ((a, .tup vs) :: l) -> Q (.ref a) { s with heap := h' }) : wpAny (model prg w) A (newTuple vs) Q E s :=
 wpAny_newObj_type (h _ _ (S.push ⟨_, rfl⟩ rfl)) (by show vs.toArray.size <= sizeLine; rw [List.size_toArray]; exact sz hz)
theorem mapSeq_list (f : Array Value -> Array Value) {n : Nat} (e : f vs.toArray = ws.toArray) : ∃ m, Obj.mapSeq f { cls := .type "list", data := .seq vs.toArray n } = { cls := .type "list", data := .seq ws.toArray m } := ⟨_, by rw [<- e]; rfl⟩
theorem list_upd {h : Heap} (S : St w h₀ h l) (r : Rep a (.list vs) (.list ws) l l') (f : Array Value -> Array Value) (hz : ws.length <= 100000) (e : f vs.toArray = ws.toArray) : St w h₀ (h.update a (Obj.mapSeq f)) l' := by
 refine hd fun P0 q0 => ?_
 obtain ⟨o, ho, -, n, rfl⟩ := S.has r.mem
 obtain ⟨m, em⟩ := mapSeq_list f (n := n) e
 refine q0 ?_
 refine S.set r (Heap.SameBut.update ..) ⟨_, Heap.get?_update_self _ ho (by rw [em]; rfl), hz, m, em⟩
theorem appendS {Q : Value -> Shared -> Prop} (S : St w h₀ s.heap l) (r : Rep a (.list vs) (.list (vs ++ [v])) l l') (hz : vs.length < 100000) (h : ∀ h', St w h₀ h' l' -> Q .none { s with heap := h' }) :
  wpAny (model prg w) A (call (.builtin "list.append") [.ref a, v]) Q E s := by
 refine hd fun P0 q0 => ?_
 obtain ⟨o, ho, -, n, rfl⟩ := S.has r.mem
 refine q0 ?_
 exact call_meets F.slot_list_append ⟨_, ho, rfl⟩ F.entry_list_append (F.args_list_append_2 _ _) (PySem.list_append a vs.toArray n v (by rw [List.size_toArray]; exact sz (Nat.le_of_lt hz))) ⟨ho, h _ (list_upd S r _ (by rw [List.length_append]; exact hz) (by simp))⟩
theorem popAtS {k : Nat} {y : Value} {Q : Value -> Shared -> Prop} (S : St w h₀ s.heap l) (r : Rep a (.list vs) (.list (vs.eraseIdx k)) l l') (hk : i = (k : Int)) (hlt : k < vs.length) (hy : vs[k]? = some y)
  (h : ∀ h', St w h₀ h' l' -> Q y { s with heap := h' }) : wpAny (model prg w) A (call (.builtin "list.pop") [.ref a, .int i u]) Q E s := by
 refine hd fun P0 q0 => ?_
 obtain ⟨o, ho, hz, n, rfl⟩ := S.has r.mem
 refine q0 ?_
 have h1 : Builtin.List.listFitsIndex i = true := fitsIndex_of (by lia) (by lia)
 have h2 : seqIndex? i vs.toArray.size = some k := by rw [List.size_toArray, seqIndex_of (by lia) (by lia), hk]; simp
 have h3 : vs.toArray[k]? = some y := by simpa using hy
 have h4 : vs.toArray.size <= sizeLine := by rw [List.size_toArray]; exact sz hz
 have M := MeetsSeq.list_pop_at a vs.toArray n i u k y h1 h2 h3 h4
 refine call_meets F.slot_list_pop ⟨_, ho, rfl⟩ F.entry_list_pop (F.args_list_pop_2 _ _) M ⟨ho, h _ (list_upd S r _ (Nat.le_trans (List.length_eraseIdx_le ..) hz) ?_)⟩
 simp only [Array.eraseIdxIfInBounds, List.size_toArray, hlt, dif_pos, List.eraseIdx_toArray]
theorem insertS {k : Nat} {Q : Value -> Shared -> Prop} (S : St w h₀ s.heap l) (r : Rep a (.list vs) (.list (vs.take k ++ v :: vs.drop k)) l l') (hz : vs.length < 100000) (hk : i = (k : Int)) (hlt : k <= vs.length)
  (h : ∀ h', St w h₀ h' l' -> Q .none { s with heap := h' }) : wpAny (model prg w) A (call (.builtin "list.insert") [.ref a, .int i u, v]) Q E s := by
 refine hd fun P0 q0 => ?_
 obtain ⟨o, ho, -, n, rfl⟩ := S.has r.mem
 refine q0 ?_
 have h1 : Builtin.List.listFitsIndex i = true := fitsIndex_of (by lia) (by lia)
 have h2 : ¬ (!Builtin.List.listFitsIndex i) = true := by rw [h1]; decide
 have h4 : vs.toArray.size <= sizeLine := by rw [List.size_toArray]; exact sz (Nat.le_of_lt hz)
 have M := AutoSeq1.list_insert_list_int_val_1 a vs.toArray n i u v h2 h4
 refine call_meets F.slot_list_insert ⟨_, ho, rfl⟩ F.entry_list_insert (F.args_list_insert_3 _ _ _) M ⟨ho, h _ (list_upd S r _ (by simp; lia) ?_)⟩
 have e : (if i < 0 then (i + (vs.toArray.size : Int)).toNat else min i.toNat vs.toArray.size) = k := by
  rw [if_neg (by lia), List.size_toArray]; lia
 show (vs.toArray.extract 0 _).push v ++ vs.toArray.extract _ = _
 rw [e]
 simp only [List.size_toArray, List.extract_toArray, List.push_toArray, List.append_toArray, List.extract_eq_drop_take, List.drop_zero, Nat.sub_zero, List.append_assoc, List.singleton_append, List.take_of_length_le (Nat.le_of_eq (List.length_drop (i := k) (l := vs)))]
theorem addListS {Q : Value -> Shared -> Prop} (S : St w h₀ s.heap l) (ra : In2 w h₀ l a (.list vs)) (rb : In2 w h₀ l b (.list ws)) (hz : vs.length + ws.length <= 100000)
  (h : ∀ a h', St w h₀ h' ((a, .list (vs ++ ws)) :: l) -> Q (.ref a) { s with heap := h' }) : wpAny (model prg w) A (binaryOp .Add (.ref a) (.ref b)) Q E s := by
 refine hd fun P0 q0 => ?_
 obtain ⟨o, ho, -, n, rfl⟩ := ra.has S
 obtain ⟨o', ho', -, n', rfl⟩ := rb.has S
 refine q0 ?_
 exact P.add_list ho ho' (h _ _ (S.push ⟨by rw [List.length_append]; exact hz, 0, by rw [List.append_toArray]⟩ rfl)) (by simp only [List.size_toArray]; exact sz hz)
theorem truthyListS {Q : Bool -> Shared -> Prop} (S : St w h₀ s.heap l) (ra : In2 w h₀ l a (.list vs)) (h : ∀ tk, Q (!vs.isEmpty) { s with toks := tk }) : wpAny (model prg w) A (truthy (.ref a)) Q E s :=
 wpAny_truthy_list (ra.has S).list (by rw [List.size_toArray]; have := (ra.has S).len; lia) (by simpa using h _)
theorem lenListS {Q : Value -> Shared -> Prop} (S : St w h₀ s.heap l) (ra : In2 w h₀ l a (.list vs)) (h : ∀ t tk, Q (.int (vs.length : Int) t) { s with toks := tk }) : wpAny (model prg w) A (call (.builtin "len") [.ref a]) Q E s :=
 call_len_list (ra.has S).list (by rw [List.size_toArray]; have := (ra.has S).len; lia) (by simpa using h _ _)
theorem methListS {name : Str} {id : String} {pl : Sem Bool} {Q : Value × List Value -> Shared -> Prop} (slot : Slot "list" name id) (hty : typeOf (.builtin id) = pure (.type "method_descriptor")) (S : St w h₀ s.heap l) (ra : In2 w h₀ l a (.list vs))
  (h : Q (.builtin id, [.ref a]) s) : wpAny (model prg w) A (getMethod (.ref a) name pl) Q E s := by
 refine hd fun P0 q0 => ?_
 obtain ⟨o, ho, -, n, rfl⟩ := ra.has S
 refine q0 ?_
 exact getMethod_builtin ⟨_, ho, rfl⟩ PySem.F.plainAttrs_list slot hty (fun b e => by cases e; exact ⟨_, ho, rfl⟩) h
end
section
variable {w : World} {h₀ : Heap} {l l' : List (Addr × Sh)} {A : Around} {E : Value -> Shared -> Prop} {s : Shared} {env : Env} {x : Str} {pos : Pos} {v : Value} {kvs : List (Str × Value)} {a d C f : Addr} {name : Str}
theorem lookIn_dictS {o : Obj} (h : o.IsDictOf (strKind prg w) kvs) : lookIn name o = some (valueAt kvs name) := by
 refine hd fun P0 q0 => ?_
 obtain ⟨es, ep, hx, hd, hk, hp, hn⟩ := h
 refine q0 ?_
 unfold lookIn
 rw [hd]
 dsimp only
 have hf := hp.find name
 have e : (fun e : DictEntry => (strKind prg w).is name e.key) = fun e => e.key.isStr name := funext fun e => isStr_of name e.key ▸ rfl
 rw [e] at hf
 cases q : es.toList.find? (fun e => e.key.isStr name) with
 | some en => rw [q] at hf; rw [<- hf]; rfl
 | none =>
  rw [q] at hf
  rw [<- hf]
  dsimp only
  have : es.toList.any (·.refKey) = false := by
   rw [List.any_eq_false]
   intro e he
   obtain ⟨k, hk1, _⟩ := hk e (Array.mem_toList_iff.mp he)
   obtain ⟨t, ht⟩ := Value.isStrOf_shape hk1
   simp [DictEntry.refKey, ht]
  rw [this]; rfl
theorem instS {h : Heap} (hx : Has w h a (.exact (instObj C d))) (hd : Has w h d (.dict kvs)) : ∃ od, InstAt h a (instObj C d) C (some od) /\ lookIn name od = some (valueAt kvs name) := by
 obtain ⟨o, e, q⟩ := hd
 exact ⟨o, ⟨hx.get, rfl, rfl, e⟩, lookIn_dictS q⟩
theorem putName_dictS {o : Obj} {t : Tok} (h : o.IsDictOf (strKind prg w) kvs) : (Obj.putName name (PyData.keyHash w.params name) (.str name t) v o).IsDictOf (strKind prg w) (stored kvs name v) /\ (Obj.putName name (PyData.keyHash w.params name) (.str name t) v o).isFreed = false := by
 obtain ⟨es, ep, hx, hd, hk, hp, hn⟩ := h
 obtain ⟨oc, odi, oda, osl⟩ := o
 dsimp only at hd
 subst hd
 obtain ⟨es⟩ := es
 rw [Obj.putName_eq]
 unfold Obj.putNameByArray
 dsimp only
 have e : (fun e : DictEntry => (strKind prg w).is name e.key) = fun e => e.key.isStr name := funext fun e => isStr_of name e.key ▸ rfl
 have hidx := hp.findIdx name
 rw [e] at hidx
 have hkey : (strKind prg w).is name (.str name t) = true := strKind_is prg w name t
 rw [List.findIdx?_toArray]
 cases q : es.findIdx? (fun e => e.key.isStr name) with
 | some i =>
  dsimp only
  have q' : (es.findIdx? fun e => (strKind prg w).is name e.key) = some i := by rw [e, q]
  have qa : (kvs.any fun kv => decide (kv.1 = name)) = true := by rw [hidx] at q; exact any_of_findIdx_some q
  refine ⟨⟨_, _, hx, rfl, hk.modify i v, ?_, ?_⟩, rfl⟩
  ·rw [stored, if_pos qa]
   rw [Array.toList_modify]
   exact hp.modify hn q' v
  ·rw [stored, if_pos qa, keys_map_store]; exact hn
 | none =>
  dsimp only
  have hany : ¬ (kvs.any (fun kv => decide (kv.1 = name)) = true) := by
   rw [hidx] at q
   intro hh
   obtain ⟨kv, hm, hk⟩ := List.any_eq_true.mp hh
   have := List.findIdx?_eq_none_iff.mp q kv hm
   rw [this] at hk; cases hk
  refine ⟨⟨_, _, hx, rfl, hk.push hkey v, ?_, ?_⟩, rfl⟩
  ·rw [stored, if_neg hany, Array.toList_push]
   exact hp.append hkey _ v
  ·rw [stored, if_neg hany, List.map_append, List.nodup_append]
   refine ⟨hn, by simp, fun x hx y hy => ?_⟩
   obtain ⟨kv, hm, rfl⟩ := List.mem_map.mp hx
   simp only [List.map_cons, List.map_nil, List.mem_singleton] at hy
   subst hy
   intro hq
   exact hany (List.any_eq_true.mpr ⟨kv, hm, by simpa using hq⟩)
end
section
variable {K : Frag} {w : World} {h₀ : Heap} {l l' : List (Addr × Sh)} {A : Around} {E : Value -> Shared -> Prop} {s : Shared} {env : Env} {x : Str} {pos : Pos} {v : Value} {kvs : List (Str × Value)} {a d C f : Addr} {name : Str}
theorem attrI {expr : Bool} {attr : Option Value} {Q : Value -> Shared -> Prop} (X0 : K.In h₀) (S : St w h₀ s.heap l) (hx : In2 w h₀ l a (.exact (instObj C d))) (hd : In2 w h₀ l d (.dict kvs)) (hv : valueAt kvs name = some v)
  (hg : plainGet K C name = true) (hh : hasDictIn K C = true) (ha : findIn K (.ref C) name = some attr) (hn : noGet K attr = true) (hv' : handedIn v = true)
  (h : ∀ tk, Q v { s with toks := tk }) : wpAny (model prg w) A (getAttr (.ref a) name expr) Q E s := by
 obtain ⟨od, I, e⟩ := instS (name := name) (hx.has S) (hd.has S)
 rw [hv] at e
 exact get_value (X0.keeps S.keep) I (plainGet_of hg).1 (findObj_own hh ha hn e) hv' (h _)
theorem methI {pl : Sem Bool} {Q : Value × List Value -> Shared -> Prop} (X0 : K.In h₀) (S : St w h₀ s.heap l) (hx : In2 w h₀ l a (.exact (instObj C d))) (hd : In2 w h₀ l d (.dict kvs)) (hv : valueAt kvs name = none)
  (hg : plainGet K C name = true) (hf : findIn K (.ref C) name = some (some (.ref f))) (ht : isFn K (.ref f) = true) (h : Q (.ref f, [.ref a]) s) : wpAny (model prg w) A (getMethod (.ref a) name pl) Q E s := by
 obtain ⟨od, I, e⟩ := instS (name := name) (hx.has S) (hd.has S)
 rw [hv] at e
 exact method_fn (X0.keeps S.keep) I (plainGet_of hg).1 (plainGet_of hg).2 hf (beq_iff_eq.mp ht) (by show Option.map (fun x => x.isSome) (lookIn name od) = some false; rw [e]; rfl) h
theorem osaS {t : Tok} {R : Result -> Shared -> Prop} (X0 : K.In h₀) (S : St w h₀ s.heap l) (hx : In2 w h₀ l a (.exact (instObj C d))) (r : Rep d (.dict kvs) (.dict (stored kvs name v)) l l') (hz : kvs.length <= 1000)
  (hp : plainOver K C = true) (ht : takerIn K C name = some none) (hh : hasDictIn K C = true)
  (h : ∀ h' tk, St w h₀ h' l' -> R (.ok (.ret .none)) { s with heap := h', toks := tk }) : codeAny (model prg w) A (.call (.builtin "object.__setattr__") ⟨[.ref a, .str name t, v], []⟩) R s := by
 have X := X0.keeps S.keep
 refine hd fun P0 q0 => ?_
 obtain ⟨od, I, hl⟩ := instS (name := name) (hx.has S) (S.has r.mem)
 obtain ⟨od', hod, hD⟩ := S.has r.mem
 refine q0 ?_
 have hd0 : s.heap.get? d = some od := I.dict
 rw [hod] at hd0; cases hd0
 refine osa_open X I hp ht fun b => ?_
 refine hd fun P0 q0 => ?_
 obtain ⟨cd, hc, hd'⟩ := any_some hh
 obtain ⟨hxo, hcl, hn, -⟩ := I
 refine q0 ?_
 refine wpAny_bind (wpAny_pure (wpAny_bind (wpAny_bind (wpAny_loadPart hxo (wpAny_bind ((looks_clsIn X hc).here ?_))))))
 rw [hd']
 refine wpAny_pure (a := some d) (wpAny_bind (wpAny_pure (wpAny_bind ?_)))
 unfold nsSet
 refine wpAny_bind (wpAny_bind (wpAny_askSetting (wpAny_pure (wpAny_bind (wpAny_mkText (wpAny_bind (wpAny_loadPart hod ?_)))))))
 refine hd fun P0 q0 => ?_
 obtain ⟨es, ep, hxd, hdat, hk, hp', hnd⟩ := id hD
 refine q0 ?_
 rw [hdat]
 dsimp only
 have c : (!es.any (·.key.isStr name) && es.any (·.refKey)) = false := by
  have : es.any (·.refKey) = false := by
   rw [Array.any_eq_false']
   intro e he
   obtain ⟨k, hk1, _⟩ := hk e he
   obtain ⟨t, ht⟩ := Value.isStrOf_shape hk1
   simp [DictEntry.refKey, ht]
  rw [this, Bool.and_false]
 rw [aRefKeyMayBeTheName_at, c]
 obtain ⟨q1, q2⟩ := putName_dictS (name := name) (v := v) (t := s.toks) hD
 refine wpAny_updatePart hod ?_
 have hD' := Heap.get?_update_self (Obj.putName name (PyData.keyHash w.params name) (.str name s.toks) v) hod q2
 have S' : St w h₀ (s.heap.update d (Obj.putName name (PyData.keyHash w.params name) (.str name s.toks) v)) l' := S.set r (Heap.SameBut.update ..) ⟨_, hD', q1⟩
 refine wpAny_bind (wpAny_lookBehind hD' ?_ ?_)
 ·obtain ⟨es', ep', -, hdat', -, hp'', -⟩ := q1
  rw [hdat']
  refine pastItsLine_dict ?_
  have e1 := hp''.length
  have e2 := stored_length_le kvs name v
  rw [Array.length_toList] at e1
  rw [e1, sizeLine_eq]; lia
 ·exact wpAny_pure (h _ _ S')
theorem setI {Q : Unit -> Shared -> Prop} (X0 : K.In h₀) (S : St w h₀ s.heap l) (hx : In2 w h₀ l a (.exact (instObj C d))) (r : Rep d (.dict kvs) (.dict (stored kvs name v)) l l') (hz : kvs.length <= 1000)
  (hs : findIn K (.ref C) "__setattr__" = some (some (.builtin "object.__setattr__"))) (hp : plainOver K C = true) (ht : takerIn K C name = some none) (hh : hasDictIn K C = true)
  (h : ∀ h' tk, St w h₀ h' l' -> Q () { s with heap := h', toks := tk }) : wpAny (model prg w) A (setAttr (.ref a) name v) Q E s := by
 have X := X0.keeps S.keep
 obtain ⟨od, I, hl⟩ := instS (name := name) (hx.has S) (S.has r.mem)
 exact set_plain X I hs (osaS (s := { s with toks := s.toks + 1 }) X0 S hx r hz hp ht hh fun h' tk S' => h h' tk S')
theorem newInst {fI : Addr} {args : List Value} {Q : Value -> Shared -> Prop} (X0 : K.In h₀) (S : St w h₀ s.heap l) (hm : makesIn K C = true)
  (hi : findIn K (.ref C) "__init__" = some (some (.ref fI))) (hf : typeIn K (.ref fI) = some (.type "function"))
  (h : ∀ x d h', St w h₀ h' ((x, .exact (instObj C d)) :: (d, .dict []) :: l) ->
   codeAny (model prg w) (A.under (.builtin "type.__call__" ⟨.ref C :: args, []⟩)) (.call (.ref fI) ⟨.ref x :: args, []⟩) (fun r s' => r = .ok (.ret .none) /\ Q (.ref x) s') { s with heap := h' }) :
  wpAny (model prg w) A (call (.ref C) args) Q E s := by
 have X := X0.keeps S.keep
 refine wpAny_call ?_
 obtain ⟨hh, g, dd, t, os⟩ := s
 refine make_core (makes_of X hm) (looks_findIn X hi) (fun self => bind_fn X self hf) (.inl rfl) ?_
 have e0 : (Sh.dict []).ok w emptyDict := by
  obtain ⟨o, ho, hd⟩ := Heap.dictOf_iff.mp (Heap.DictOf.new (knd := strKind prg w) hh)
  rw [Heap.get?_push_size _ rfl] at ho
  obtain rfl := Option.some.inj ho
  exact hd
 have S1 := S.push (x := .dict []) (o := emptyDict) e0 rfl
 have S2 := S1.push (x := .exact (instObj C hh.objs.size)) (o := instObj C hh.objs.size) rfl rfl
 rw [Heap.size_push] at S2
 refine codeAny_mono (h _ _ _ S2) fun r s' z => ?_
 obtain ⟨rfl, q⟩ := z
 exact ⟨rfl, q⟩
end
theorem runs_up {M : Model} {Γ : Ctx} {p : Pos} {t : Sem Fin} {fs : List Frame} {s s' : Shared} {e : End} (h : Runs M Γ p t fs s e s') : s.toks <= s'.toks := by
 induction h with
 | fresh _ ih => exact Nat.le_trans (Nat.le_succ _) ih
 | done | raise | yield => exact Nat.le_refl _
 | call _ _ i1 i2 => exact Nat.le_trans i1 i2
 | resumeFresh _ _ _ _ i1 i2 => exact Nat.le_trans i1 i2
 | resumeSuspended _ _ _ _ i1 i2 => exact Nat.le_trans i1 i2
 | segRet _ _ i1 i2 => exact Nat.le_trans i1 i2
 | segGen _ _ i1 i2 => exact Nat.le_trans i1 i2
 | segSuspGen _ _ _ _ i1 i2 => exact Nat.le_trans i1 i2
 | _ => assumption
theorem wakes_up {M : Model} {Γ : Ctx} {p : Pos} {g : Nat} {r : Resume} {s s' : Shared} {res : GenResult} (h : Wakes M Γ p g r s res s') : s.toks <= s'.toks := by
 unfold Wakes at h
 split at h
 ·exact h.elim
 ·split at h
  ·obtain ⟨e₁, s₁, h, -, -, rfl⟩ := h; have := runs_up h; exact this
  ·obtain ⟨-, rfl⟩ := h; exact Nat.le_refl _
  ·obtain ⟨-, rfl⟩ := h; exact Nat.le_refl _
 ·obtain ⟨e₁, s₁, h, -, -, rfl⟩ := h; have := runs_up h; exact this
 ·obtain ⟨-, rfl⟩ := h; exact Nat.le_refl _
 ·obtain ⟨-, rfl⟩ := h; exact Nat.le_refl _
theorem wp_up {α : Type} {M : Model} {Γ : Ctx} {Q : α -> Pos -> Shared -> Prop} {E : Value -> Pos -> Shared -> Prop} (n : Nat) : ∀ (t : Sem α) (p : Pos) (s : Shared), n <= s.toks ->
  Sem.wp M Γ t (fun a p' s' => n <= s'.toks -> Q a p' s') E p s -> Sem.wp M Γ t Q E p s := by
 intro t
 induction t with
 | pure a => exact fun p s hn h => h hn
 | raise e => exact fun p s hn h => h
 | unsupported | finish | yield | fork | await | register => exact fun p s hn h => h
 | rule _ k ih | «at» _ k ih | alloc _ k ih | loadIfAlive _ k ih | point _ k ih | ask k ih | os _ _ k ih | handled _ k ih | newGen _ k ih | stack k ih | thread k ih => exact fun p s hn h => ih _ _ _ hn h
 | fresh k ih => exact fun p s hn h => ih _ _ { s with toks := s.toks + 1 } (Nat.le_trans hn (Nat.le_succ _)) h
 | load a _ k ih | genState a k ih => exact fun p s hn ⟨o, ho, h⟩ => ⟨o, ho, ih _ _ _ hn h⟩
 | update a _ f k ih => exact fun p s hn ⟨ha, h⟩ => ⟨ha, ih _ _ { s with heap := s.heap.update a f } hn h⟩
 | choose src _ k ih => exact fun p s hn ⟨ha, h⟩ => ⟨ha, ih _ _ { s with drawn := s.drawn.bump src } hn h⟩
 | call c h g l k ih => exact fun p s hn ⟨r, s', hr, h⟩ => ⟨r, s', hr, ih _ _ _ (Nat.le_trans hn (runs_up hr)) h⟩
 | resume g r l k ih => exact fun p s hn ⟨res, s', hw, h⟩ => ⟨res, s', hw, ih _ _ _ (Nat.le_trans hn (wakes_up hw)) h⟩
theorem wpUp {α : Type} {M : Model} {A : Around} {t : Sem α} {Q : α -> Shared -> Prop} {E : Value -> Shared -> Prop} {s : Shared} (h : wpAny M A t (fun a s' => s.toks <= s'.toks -> Q a s') E s) : wpAny M A t Q E s :=
 fun Γ p hΓ => wp_up s.toks t p s (Nat.le_refl _) (h Γ p hΓ)
structure Tau where
 f : Tok -> Str
 os : OsState
structure Kw where
 h : Heap
 ρ : List Addr
 τ : Tau
structure Kle (κ κ' : Kw) : Prop where
 h : Ext κ.h κ'.h
 ρ : κ.ρ <+: κ'.ρ
 τ : ∀ t, κ.τ.f t ≠ Str.empty -> κ'.τ.f t = κ.τ.f t
 os : κ'.τ.os = κ.τ.os
theorem Kle.rfl {κ : Kw} : Kle κ κ := ⟨Ext.rfl, List.prefix_rfl, fun _ _ => .refl _, .refl _⟩
theorem Kle.trans {a b c : Kw} (x : Kle a b) (y : Kle b c) : Kle a c := ⟨x.h.trans y.h, x.ρ.trans y.ρ, fun t h => (y.τ t (by rw [x.τ t h]; exact h)).trans (x.τ t h), y.os.trans x.os⟩
theorem Kle.get {κ κ' : Kw} (x : Kle κ κ') {k : Nat} {a : Addr} (h : κ.ρ[k]? = some a) : κ'.ρ[k]? = some a := by
 obtain ⟨t, e⟩ := x.ρ
 rw [<- e, List.getElem?_append_left (List.getElem?_eq_some_iff.mp h).1]; exact h
noncomputable def strmPos : Pos := match inDef 16 1 with
 | some (.FunctionDef _ _ _ _ _ _ _ _ _ p) => p
 | _ => default
noncomputable def strmQual : Str := attS "_law_stream.<locals>.stream"
inductive StrmAt (w : World) (h : Heap) (a c : Addr) : Prop
 | mk (d fd fi osl) : h.get? a = some ⟨.type "function", some d, .func fd, osl⟩ -> Has w h d (.ns [(attS "read", .ref a)]) -> strmFn = some fi ->
  fd.body = .stmts fi.body -> fd.scope = fi.scope -> fd.globals = mainGlobals -> fd.builtins = builtinsNs -> fd.closure = [(attS "signs", c)] -> h.CodeRec fd.code fd.qualname -> fi.scope.isCoroutine = false -> fi.scope.isGenerator = false -> fi.scope.kind = .function ->
  (∀ args' : List Value, args'.length = fi.ps.length -> bindArgs fd ⟨args', []⟩ = pure (fi.ps.zip args')) -> StrmAt w h a c
theorem StrmAt.mono {w : World} {h h' : Heap} {a c : Addr} (k : Ext h h') (x : StrmAt w h a c) : StrmAt w h' a c := by
 obtain ⟨d, fd, fi, osl, e, n, r1, r2, r3, r4, r5, r6, r7, r8, r9, r10, r11⟩ := x
 exact ⟨d, fd, fi, osl, k _ _ e, n.mono k, r1, r2, r3, r4, r5, r6, r7.keeps k, r8, r9, r10, r11⟩
noncomputable def viewObj (it : Bool) (d : Addr) : Obj := { cls := .type (if it then "dict_items" else "dict_values"), data := .fields #[.ref d] }
noncomputable abbrev methObj (f x : Addr) : Obj := { cls := .type "method", data := .fields #[.ref f, .ref x] }
mutual
noncomputable def Rel (w : World) (κ : Kw) : V -> Value -> Prop
 | .none, v' => v' = .none
 | .bool b, v' => v' = .bool b
 | .int i, v' => ∃ t, v' = .int i t
 | .str s, v' => ∃ t, v' = .str s t /\ (isQ s = true -> t ≠ 0 /\ κ.τ.f t = s)
 | .tup vs, v' => ∃ a vs', v' = .ref a /\ Has w κ.h a (.tup vs') /\ Rels w κ vs vs'
 | .list vs, v' => ∃ a vs', v' = .ref a /\ Has w κ.h a (.list vs') /\ Rels w κ vs vs'
 | .dict kvs, v' => ∃ a kvs', v' = .ref a /\ Has w κ.h a (.dict kvs') /\ Reld w κ kvs kvs' /\ a ≠ 1
 | .ref k, v' => ∃ a, κ.ρ[k]? = some a /\ v' = .ref a
 | .inst C k, v' => ∃ a d, κ.ρ[k]? = some d /\ v' = .ref a /\ Has w κ.h a (.exact (instObj C d))
 | .con c, v' => v' = c
 | .strm k, v' => ∃ a c, κ.ρ[k]? = some c /\ v' = .ref a /\ StrmAt w κ.h a c
 | .meth f C k, v' => ∃ a x d, κ.ρ[k]? = some d /\ v' = .ref a /\ Has w κ.h a (.exact (methObj f x)) /\ Has w κ.h x (.exact (instObj C d))
 | .view it kvs, v' => ∃ a d kvs', v' = .ref a /\ Has w κ.h a (.exact (viewObj it d)) /\ Has w κ.h d (.dict kvs') /\ Reld w κ kvs kvs' /\ d ≠ 1
 | .rng lo hi st, v' => ∃ a, v' = .ref a /\ ∃ t u u', IsRange κ.h a lo hi st t u u'
noncomputable def Rels (w : World) (κ : Kw) : List V -> List Value -> Prop
 | [], vs' => vs' = []
 | v :: vs, vs' => ∃ v' r, vs' = v' :: r /\ Rel w κ v v' /\ Rels w κ vs r
noncomputable def Reld (w : World) (κ : Kw) : List (Str × V) -> List (Str × Value) -> Prop
 | [], vs' => vs' = []
 | (x, v) :: vs, vs' => ∃ v' r, vs' = (x, v') :: r /\ Rel w κ v v' /\ Reld w κ vs r
end
theorem isQ_ne {s : Str} (h : isQ s = true) : s ≠ Str.empty := by
 rintro rfl
 exact absurd h (by decide)
mutual
noncomputable def V.bel (b : Nat) : V -> Prop
 | .ref k | .inst _ k | .strm k | .meth _ _ k => k < b
 | .tup vs | .list vs => V.bels b vs
 | .dict kvs | .view _ kvs => V.beld b kvs
 | _ => True
noncomputable def V.bels (b : Nat) : List V -> Prop
 | [] => True
 | v :: vs => V.bel b v /\ V.bels b vs
noncomputable def V.beld (b : Nat) : List (Str × V) -> Prop
 | [] => True
 | (_, v) :: vs => V.bel b v /\ V.beld b vs
end
mutual
theorem V.simple.bel {b : Nat} : ∀ {v : V}, v.simple = true -> v.bel b
 | .none, _ | .bool _, _ | .int _, _ | .str _, _ => trivial
 | .tup vs, h | .list vs, h => V.simples.bel (vs := vs) h
 | .dict kvs, h => V.simpled.bel (vs := kvs) h
 | .ref _, h | .inst _ _, h | .con _, h | .strm _, h | .meth _ _ _, h | .view _ _, h | .rng _ _ _, h => by cases h
theorem V.simples.bel {b : Nat} : ∀ {vs : List V}, V.simples vs = true -> V.bels b vs
 | [], _ => trivial
 | v :: vs, h => by
  rw [V.simples, Bool.and_eq_true] at h
  exact ⟨V.simple.bel h.1, V.simples.bel h.2⟩
theorem V.simpled.bel {b : Nat} : ∀ {vs : List (Str × V)}, V.simpled vs = true -> V.beld b vs
 | [], _ => trivial
 | (_, v) :: vs, h => by
  rw [V.simpled, Bool.and_eq_true] at h
  exact ⟨V.simple.bel h.1, V.simpled.bel h.2⟩
end
theorem cut_get {ρ : List Addr} {b k : Nat} {a : Addr} (h : ρ[k]? = some a) (hk : k < b) : (ρ.take b)[k]? = some a := by
 rw [List.getElem?_take, if_pos hk]; exact h
mutual
theorem Rel.bel {w : World} {κ : Kw} : ∀ (v : V) (v' : Value), Rel w κ v v' -> v.bel κ.ρ.length
 | .none, _, _ | .bool _, _, _ | .con _, _, _ | .int _, _, _ | .str _, _, _ | .rng _ _ _, _, _ => trivial
 | .tup vs, _, r | .list vs, _, r => by obtain ⟨_, vs', _, _, r⟩ := r; exact Rels.bel vs vs' r
 | .dict vs, _, r => by obtain ⟨_, vs', _, _, r, _⟩ := r; exact Reld.bel vs vs' r
 | .ref _, _, r => r.elim fun _ r => (List.getElem?_eq_some_iff.mp r.1).1
 | .inst _ _, _, r | .strm _, _, r => r.elim fun _ r => r.elim fun _ r => (List.getElem?_eq_some_iff.mp r.1).1
 | .meth _ _ _, _, r => r.elim fun _ r => r.elim fun _ r => r.elim fun _ r => (List.getElem?_eq_some_iff.mp r.1).1
 | .view _ vs, _, r => by obtain ⟨_, _, vs', _, _, _, r, _⟩ := r; exact Reld.bel vs vs' r
theorem Rels.bel {w : World} {κ : Kw} : ∀ (vs : List V) (vs' : List Value), Rels w κ vs vs' -> V.bels κ.ρ.length vs
 | [], _, _ => trivial
 | v :: vs, _, r => r.elim fun v' r => r.elim fun x r => ⟨Rel.bel v v' r.2.1, Rels.bel vs x r.2.2⟩
theorem Reld.bel {w : World} {κ : Kw} : ∀ (vs : List (Str × V)) (vs' : List (Str × Value)), Reld w κ vs vs' -> V.beld κ.ρ.length vs
 | [], _, _ => trivial
 | (_, v) :: vs, _, r => r.elim fun v' r => r.elim fun x r => ⟨Rel.bel v v' r.2.1, Reld.bel vs x r.2.2⟩
end
structure KleB (b : Nat) (κ κ' : Kw) : Prop where
 h : Ext κ.h κ'.h
 g : ∀ {k : Nat} {a : Addr}, κ.ρ[k]? = some a -> k < b -> κ'.ρ[k]? = some a
 τ : ∀ t, κ.τ.f t ≠ Str.empty -> κ'.τ.f t = κ.τ.f t
mutual
theorem Rel.tr {w : World} {κ κ' : Kw} {b : Nat} (k : KleB b κ κ') : ∀ (v : V) (v' : Value), Rel w κ v v' -> v.bel b -> Rel w κ' v v'
 | .none, _, r, _ | .bool _, _, r, _ | .con _, _, r, _ | .int _, _, r, _ => r
 | .str _, _, r, _ => by obtain ⟨t, e, h⟩ := r; exact ⟨t, e, fun q => ⟨(h q).1, (k.τ t (by rw [(h q).2]; exact isQ_ne q)).trans (h q).2⟩⟩
 | .tup vs, _, r, hb | .list vs, _, r, hb => by obtain ⟨a, vs', e, h, r⟩ := r; exact ⟨a, vs', e, h.mono k.h, Rels.tr k vs vs' r hb⟩
 | .dict vs, _, r, hb => by obtain ⟨a, vs', e, h, r, o⟩ := r; exact ⟨a, vs', e, h.mono k.h, Reld.tr k vs vs' r hb, o⟩
 | .ref _, _, r, hb => by obtain ⟨a, h, e⟩ := r; exact ⟨a, k.g h hb, e⟩
 | .inst _ _, _, r, hb | .strm _, _, r, hb => by obtain ⟨a, d, h, e, x⟩ := r; exact ⟨a, d, k.g h hb, e, x.mono k.h⟩
 | .meth _ _ _, _, r, hb => by obtain ⟨a, x, d, h, e, y, z⟩ := r; exact ⟨a, x, d, k.g h hb, e, y.mono k.h, z.mono k.h⟩
 | .view _ vs, _, r, hb => by obtain ⟨a, d, vs', e, x, y, r, o⟩ := r; exact ⟨a, d, vs', e, x.mono k.h, y.mono k.h, Reld.tr k vs vs' r hb, o⟩
 | .rng _ _ _, _, r, _ => by obtain ⟨a, e, t, u, u', x⟩ := r; exact ⟨a, e, t, u, u', k.h _ _ x⟩
theorem Rels.tr {w : World} {κ κ' : Kw} {b : Nat} (k : KleB b κ κ') : ∀ (vs : List V) (vs' : List Value), Rels w κ vs vs' -> V.bels b vs -> Rels w κ' vs vs'
 | [], _, h, _ => h
 | v :: vs, _, r, hb => r.elim fun v' r => r.elim fun x r => ⟨v', x, r.1, Rel.tr k v v' r.2.1 hb.1, Rels.tr k vs x r.2.2 hb.2⟩
theorem Reld.tr {w : World} {κ κ' : Kw} {b : Nat} (k : KleB b κ κ') : ∀ (vs : List (Str × V)) (vs' : List (Str × Value)), Reld w κ vs vs' -> V.beld b vs -> Reld w κ' vs vs'
 | [], _, h, _ => h
 | (_, v) :: vs, _, r, hb => r.elim fun v' r => r.elim fun x r => ⟨v', x, r.1, Rel.tr k v v' r.2.1 hb.1, Reld.tr k vs x r.2.2 hb.2⟩
end
section
variable {w : World} {κ κ' : Kw}
theorem Kle.b {b : Nat} (k : Kle κ κ') : KleB b κ κ' := ⟨k.h, fun h _ => k.get h, k.τ⟩
theorem Rel.mono (k : Kle κ κ') (v : V) (v' : Value) (r : Rel w κ v v') : Rel w κ' v v' := Rel.tr k.b v v' r (Rel.bel v v' r)
theorem Rels.mono (k : Kle κ κ') (v : List V) (v' : List Value) (r : Rels w κ v v') : Rels w κ' v v' := Rels.tr k.b v v' r (Rels.bel v v' r)
theorem Reld.mono (k : Kle κ κ') (v : List (Str × V)) (v' : List (Str × Value)) (r : Reld w κ v v') : Reld w κ' v v' := Reld.tr k.b v v' r (Reld.bel v v' r)
end
section
variable {w : World} {h : Heap} {ρ : List Addr} {τ : Tau} {b : Nat}
theorem cutB : KleB b ⟨h, ρ, τ⟩ ⟨h, ρ.take b, τ⟩ := ⟨Ext.rfl, cut_get, fun _ _ => rfl⟩
theorem Rel.cut (v : V) (v' : Value) (r : Rel w ⟨h, ρ, τ⟩ v v') (hb : v.bel b) : Rel w ⟨h, ρ.take b, τ⟩ v v' := Rel.tr cutB v v' r hb
theorem Rels.cut (v : List V) (v' : List Value) (r : Rels w ⟨h, ρ, τ⟩ v v') (hb : V.bels b v) : Rels w ⟨h, ρ.take b, τ⟩ v v' := Rels.tr cutB v v' r hb
theorem Reld.cut (v : List (Str × V)) (v' : List (Str × Value)) (r : Reld w ⟨h, ρ, τ⟩ v v') (hb : V.beld b v) : Reld w ⟨h, ρ.take b, τ⟩ v v' := Reld.tr cutB v v' r hb
end
noncomputable def ORel (w : World) (κ : Kw) : O -> Sh -> Prop
 | .list vs, sh => ∃ vs', sh = .list vs' /\ Rels w κ vs vs'
 | .dict vs, sh => ∃ vs', sh = .dict vs' /\ Reld w κ vs vs'
 | .cell none, sh => sh = .cell none
 | .cell (some v), sh => ∃ v', sh = .cell (some v') /\ Rel w κ v v'
 | .citer none, sh => ∃ o, sh = .exact o /\ o.cls = .type "callable_iterator" /\ o.data = .fields #[.none, .none, .bool true]
 | .tab b, sh => κ.ρ[0]? = some 156 /\ ∃ ps : Array Value, sh = .exact (tabObj ps) /\ TriplesOk ps.toList /\ (codeAmong strmPos ps.toList = none ∨ ∃ cv, codeAmong strmPos ps.toList = some cv /\ κ.h.CodeRec cv strmQual)
 | .citer (some v), sh => ∃ v' t o, sh = .exact o /\ o.cls = .type "callable_iterator" /\ o.data = .fields #[v', .str Str.empty t, .bool false] /\ Rel w κ v v'
noncomputable def O.bel (b : Nat) : O -> Prop
 | .list vs => V.bels b vs
 | .dict vs => V.beld b vs
 | .cell none | .citer none => True
 | .tab _ => 0 < b
 | .cell (some v) | .citer (some v) => v.bel b
theorem ORel.bel {w : World} {κ : Kw} {o : O} {sh : Sh} (r : ORel w κ o sh) : o.bel κ.ρ.length := by
 match o, r with
 | .cell none, _ | .citer none, _ => trivial
 | .list _, r => exact r.elim fun _ r => Rels.bel _ _ r.2
 | .dict _, r => exact r.elim fun _ r => Reld.bel _ _ r.2
 | .cell (some _), r => exact r.elim fun _ r => Rel.bel _ _ r.2
 | .tab _, r => exact (List.getElem?_eq_some_iff.mp r.1).1
 | .citer (some _), r => obtain ⟨_, _, _, _, _, _, r⟩ := r; exact Rel.bel _ _ r
theorem ORel.tr {w : World} {κ κ' : Kw} {b : Nat} (k : KleB b κ κ') {o : O} {sh : Sh} (r : ORel w κ o sh) (hb : o.bel b) : ORel w κ' o sh := by
 match o, r, hb with
 | .cell none, h, _ | .citer none, h, _ => exact h
 | .list _, r, hb => exact r.elim fun x r => ⟨x, r.1, Rels.tr k _ _ r.2 hb⟩
 | .dict _, r, hb => exact r.elim fun x r => ⟨x, r.1, Reld.tr k _ _ r.2 hb⟩
 | .cell (some _), r, hb => exact r.elim fun x r => ⟨x, r.1, Rel.tr k _ _ r.2 hb⟩
 | .tab _, r, hb => obtain ⟨h0, ps, e, t, h1⟩ := r; exact ⟨k.g h0 hb, ps, e, t, h1.imp id fun ⟨cv, c1, c2⟩ => ⟨cv, c1, c2.keeps k.h⟩⟩
 | .citer (some _), r, hb => obtain ⟨x, t, o, e, c, d, r⟩ := r; exact ⟨x, t, o, e, c, d, Rel.tr k _ _ r hb⟩
theorem ORel.mono {w : World} {κ κ' : Kw} (k : Kle κ κ') {o : O} {sh : Sh} (r : ORel w κ o sh) : ORel w κ' o sh := r.tr k.b r.bel
theorem ORel.cut {w : World} {h : Heap} {ρ : List Addr} {τ : Tau} {b : Nat} {o : O} {sh : Sh} (r : ORel w ⟨h, ρ, τ⟩ o sh) (hb : o.bel b) : ORel w ⟨h, ρ.take b, τ⟩ o sh := r.tr cutB hb
inductive ORels (w : World) (κ : Kw) : List O -> List Sh -> Prop
 | nil : ORels w κ [] []
 | cons {o sh σ shs} : ORel w κ o sh -> ORels w κ σ shs -> ORels w κ (o :: σ) (sh :: shs)
section
variable {w : World} {κ κ' : Kw} {σ : List O} {shs : List Sh} {k : Nat} {o o' : O} {sh sh' : Sh}
theorem ORels.mono (kk : Kle κ κ') (r : ORels w κ σ shs) : ORels w κ' σ shs := by
 induction r with
 | nil => exact .nil
 | cons h _ ih => exact .cons (h.mono kk) ih
theorem ORels.len (r : ORels w κ σ shs) : shs.length = σ.length := by
 induction r with
 | nil => rfl
 | cons _ _ ih => simp [ih]
theorem ORels.get (r : ORels w κ σ shs) (h : σ[k]? = some o) : ∃ sh, shs[k]? = some sh /\ ORel w κ o sh := by
 induction r generalizing k with
 | nil => simp at h
 | cons x _ ih =>
  cases k with
  | zero => simp only [List.getElem?_cons_zero] at h ⊢; cases h; exact ⟨_, rfl, x⟩
  | succ k => simp only [List.getElem?_cons_succ] at h ⊢; exact ih h
theorem ORels.set (r : ORels w κ σ shs) (h : ORel w κ o sh) (k : Nat) : ORels w κ (σ.set k o) (shs.set k sh) := by
 induction r generalizing k with
 | nil => exact .nil
 | cons x y ih =>
  cases k with
  | zero => exact .cons h y
  | succ k => exact .cons x (ih k)
theorem ORels.snoc (r : ORels w κ σ shs) (h : ORel w κ o sh) : ORels w κ (σ ++ [o]) (shs ++ [sh]) := by
 induction r with
 | nil => exact .cons h .nil
 | cons x _ ih => exact .cons x ih
theorem ORels.take (r : ORels w κ σ shs) (b : Nat) : ORels w κ (σ.take b) (shs.take b) := by
 induction r generalizing b with
 | nil => simp; exact .nil
 | cons x _ ih =>
  cases b with
  | zero => exact .nil
  | succ b => exact .cons x (ih b)
theorem ORels.imp (r : ORels w κ σ shs) (f : ∀ (k : Nat) o sh, σ[k]? = some o -> ORel w κ o sh -> ORel w κ' o sh) : ORels w κ' σ shs := by
 induction r with
 | nil => exact .nil
 | cons x _ ih => exact .cons (f 0 _ _ rfl x) (ih fun k o sh h => f (k + 1) o sh h)
end
structure Simh (w : World) (κ : Kw) (h : Heap) (σ : List O) (rest : List (Addr × Sh)) : Prop where
 ex : ∃ shs, κ.ρ.length = σ.length /\ ORels w κ σ shs /\ St w κ.h h (κ.ρ.zip shs ++ rest)
theorem zip_rep {ρ : List Addr} {shs : List Sh} {k : Nat} {a : Addr} {sh : Sh} (sh' : Sh) (rest : List (Addr × Sh)) (h1 : ρ[k]? = some a) (h2 : shs[k]? = some sh) :
  Rep a sh sh' (ρ.zip shs ++ rest) (ρ.zip (shs.set k sh') ++ rest) := by
 induction ρ generalizing k shs with
 | nil => simp at h1
 | cons b ρ ih =>
  cases shs with
  | nil => simp at h2
  | cons x shs =>
   cases k with
   | zero => simp at h1 h2; subst h1 h2; exact .head
   | succ k => simp at h1 h2; exact .tail (ih h1 h2)
theorem zip_mem {ρ : List Addr} {shs : List Sh} {k : Nat} {a : Addr} {sh : Sh} (h1 : ρ[k]? = some a) (h2 : shs[k]? = some sh) : (a, sh) ∈ ρ.zip shs := by
 have : (ρ.zip shs)[k]? = some (a, sh) := by rw [List.getElem?_zip_eq_some]; exact ⟨h1, h2⟩
 exact List.mem_of_getElem? this
section
variable {w : World} {κ κ' : Kw} {h h' : Heap} {σ : List O} {k : Nat} {o : O} {sh : Sh} {rest rest' : List (Addr × Sh)} {a : Addr}
theorem Simh.keeps (S : Simh w κ h σ rest) (x : Ext h h') : Simh w κ h' σ rest := let ⟨shs, e, r, s⟩ := S.ex; ⟨shs, e, r, s.keeps x⟩
structure Led (w : World) (κ : Kw) (h : Heap) (σ : List O) (rest l : List (Addr × Sh)) : Prop where
 st : St w κ.h h l
 alloc : ∀ h' a o sh, ORel w ⟨κ.h, κ.ρ ++ [a], κ.τ⟩ o sh -> St w κ.h h' ((a, sh) :: l) -> Simh w ⟨κ.h, κ.ρ ++ [a], κ.τ⟩ h' (σ ++ [o]) rest
 frz : ∀ h' a sh, St w κ.h h' ((a, sh) :: l) -> ∃ h₁, Ext κ.h h₁ /\ Has w h₁ a sh /\ Simh w ⟨h₁, κ.ρ, κ.τ⟩ h' σ rest
 put : ∀ h' a sh, St w κ.h h' ((a, sh) :: l) -> Simh w κ h' σ ((a, sh) :: rest)
 back : ∀ h', St w κ.h h' l -> Simh w κ h' σ rest
 puts : ∀ h' ow, St w κ.h h' (ow ++ l) -> Simh w κ h' σ (ow ++ rest)
 sub : ∀ p ∈ rest, p ∈ l
 get : ∀ (k : Nat) o, σ[k]? = some o -> ∃ a sh, κ.ρ[k]? = some a /\ ORel w κ o sh /\ (a, sh) ∈ l /\
  ∀ o' sh', ORel w κ o' sh' -> ∃ l', Rep a sh sh' l l' /\ ∀ h', St w κ.h h' l' -> Simh w κ h' (σ.set k o') rest
 grow : ∀ κ', Kle κ κ' -> κ'.ρ = κ.ρ -> ∀ h', St w κ'.h h' l -> Simh w κ' h' σ rest
theorem Kle.push {h : Heap} {ρ : List Addr} {τ : Tau} {a : Addr} : Kle ⟨h, ρ, τ⟩ ⟨h, ρ ++ [a], τ⟩ := ⟨Ext.rfl, List.prefix_append _ _, fun _ _ => .refl _, .refl _⟩
theorem Kle.ext {h h' : Heap} {ρ : List Addr} {τ : Tau} (x : Ext h h') : Kle ⟨h, ρ, τ⟩ ⟨h', ρ, τ⟩ := ⟨x, List.prefix_rfl, fun _ _ => .refl _, .refl _⟩
theorem Led.mk' {shs : List Sh} (hl : κ.ρ.length = σ.length) (r : ORels w κ σ shs) (s : St w κ.h h (κ.ρ.zip shs ++ rest)) : Led w κ h σ rest (κ.ρ.zip shs ++ rest) := by
 have hz : κ.ρ.length = shs.length := by rw [r.len]; exact hl
 refine ⟨s, fun h' a o sh ro s' => ?_, fun h' a sh s' => ?_, fun h' a sh s' => ?_, fun h' s' => ⟨⟨_, hl, r, s'⟩⟩, fun h' ow s' => ⟨⟨_, hl, r, s'.perm ?_⟩⟩, fun p hp => List.mem_append_right _ hp, fun k o e => ?_, fun κ' kk e h' s' => ?_⟩
 ·refine ⟨⟨shs ++ [sh], by simp [hl], (r.mono Kle.push).snoc ro, ?_⟩⟩
  show St w κ.h h' ((κ.ρ ++ [a]).zip (shs ++ [sh]) ++ rest)
  rw [List.zip_append hz]
  refine s'.perm ?_
  simp only [List.zip_cons_cons, List.zip_nil_left, List.append_assoc, List.singleton_append]
  exact List.perm_middle.symm
 ·obtain ⟨h₁, x, s₁, f⟩ := St.freeze (l₁ := [(a, sh)]) s'
  exact ⟨h₁, x, f _ (.head _), ⟨_, hl, r.mono (Kle.ext x), s₁⟩⟩
 ·exact ⟨⟨_, hl, r, s'.perm List.perm_middle.symm⟩⟩
 ·rw [<- List.append_assoc, <- List.append_assoc]
  exact List.perm_append_comm.append_right _
 ·obtain ⟨sh, e2, ro⟩ := r.get e
  have hk : k < κ.ρ.length := by rw [hl]; exact (List.getElem?_eq_some_iff.mp e).1
  have e1 : κ.ρ[k]? = some κ.ρ[k] := List.getElem?_eq_getElem hk
  exact ⟨_, sh, e1, ro, List.mem_append_left _ (zip_mem e1 e2), fun o' sh' ro' => ⟨_, zip_rep sh' rest e1 e2, fun h' s' => ⟨⟨_, by rw [List.length_set]; exact hl, r.set ro' k, s'⟩⟩⟩⟩
 ·exact ⟨⟨shs, by rw [e]; exact hl, r.mono kk, by rw [e]; exact s'⟩⟩
theorem Simh.led (S : Simh w κ h σ rest) : ∃ l, Led w κ h σ rest l := by
 obtain ⟨shs, hl, r, s⟩ := S.ex
 exact ⟨_, Led.mk' hl r s⟩
theorem Simh.getG (S : Simh w κ h σ rest) (e : σ[k]? = some o) : ∃ l a sh, Led w κ h σ rest l /\ κ.ρ[k]? = some a /\ ORel w κ o sh /\ (a, sh) ∈ l /\
  ∀ κ' o' sh', Kle κ κ' -> κ'.ρ = κ.ρ -> ORel w κ' o' sh' -> ∃ l', Rep a sh sh' l l' /\ ∀ h' ow, St w κ'.h h' (ow ++ l') -> Simh w κ' h' (σ.set k o') (ow ++ rest) := by
 refine hd fun P0 q0 => ?_
 obtain ⟨shs, hl, r, s⟩ := S.ex
 obtain ⟨sh, e2, ro⟩ := r.get e
 refine q0 ?_
 have hk : k < κ.ρ.length := by rw [hl]; exact (List.getElem?_eq_some_iff.mp e).1
 have e1 : κ.ρ[k]? = some κ.ρ[k] := List.getElem?_eq_getElem hk
 refine ⟨_, _, sh, Led.mk' hl r s, e1, ro, List.mem_append_left _ (zip_mem e1 e2), fun κ' o' sh' kk er ro' => ⟨_, zip_rep sh' rest e1 e2, fun h' ow s' => ⟨⟨shs.set k sh', by rw [List.length_set, er]; exact hl, (r.mono kk).set ro' k, ?_⟩⟩⟩⟩
 rw [er]
 exact s'.perm (by rw [<- List.append_assoc, <- List.append_assoc]; exact List.perm_append_comm.append_right _)
theorem Simh.pop {a : Addr} {sh : Sh} (S : Simh w κ h σ ((a, sh) :: rest)) : ∃ l, Led w κ h σ rest l /\ St w κ.h h ((a, sh) :: l) := by
 obtain ⟨shs, hl, r, s⟩ := S.ex
 exact ⟨_, Led.mk' hl r s.drop, s.perm List.perm_middle⟩
theorem Simh.rPm (S : Simh w κ h σ rest) (p : rest.Perm rest') : Simh w κ h σ rest' := by
 obtain ⟨shs, hl, r, s⟩ := S.ex
 exact ⟨⟨shs, hl, r, s.perm (p.append_left _)⟩⟩
theorem Simh.rest_tail {p} (S : Simh w κ h σ (p :: rest)) : Simh w κ h σ rest := by
 obtain ⟨shs, hl, r, s⟩ := S.ex
 exact ⟨⟨shs, hl, r, s.drop⟩⟩
theorem Simh.len (S : Simh w κ h σ rest) : κ.ρ.length = σ.length := let ⟨_, e, _⟩ := S.ex; e
theorem Simh.keep (S : Simh w κ h σ rest) : Ext κ.h h := let ⟨_, _, _, s⟩ := S.ex; s.keep
theorem Simh.bel (S : Simh w κ h σ rest) (e : σ[k]? = some o) : o.bel σ.length := by
 obtain ⟨shs, hl, r, s⟩ := S.ex
 obtain ⟨sh, -, ro⟩ := r.get e
 have := ro.bel; rwa [hl] at this
end
noncomputable def Bel (b : Nat) (σ : List O) : Prop := ∀ k o, k < b -> σ[k]? = some o -> o.bel b
structure Pres (base : Nat) (σ σ' : List O) : Prop where
 len : σ.length <= σ'.length
 bel : ∀ b, b <= base -> b <= σ.length -> Bel b σ -> Bel b σ'
theorem Pres.rfl {b : Nat} {σ : List O} : Pres b σ σ := ⟨Nat.le_refl _, fun _ _ _ h => h⟩
theorem Pres.trans {b : Nat} {σ σ' σ'' : List O} (x : Pres b σ σ') (y : Pres b σ' σ'') : Pres b σ σ'' :=
 ⟨Nat.le_trans x.len y.len, fun c hc hl h => y.bel c hc (Nat.le_trans hl x.len) (x.bel c hc hl h)⟩
theorem Pres.alloc {b : Nat} {σ : List O} (o : O) : Pres b σ (σ ++ [o]) := by
 refine ⟨by simp, fun c _ hl h k o' hk e => h k o' hk ?_⟩
 rwa [List.getElem?_append_left (by lia)] at e
theorem Pres.set {b k : Nat} {σ : List O} {o : O} (h : ∀ c, c <= b -> k < c -> Bel c σ -> o.bel c) : Pres b σ (σ.set k o) := by
 refine ⟨by simp, fun c hc hl hb j o' hj e => ?_⟩
 rw [List.getElem?_set] at e
 split at e
 ·rename_i q; subst q
  split at e
  ·cases e; exact h c hc hj hb
  ·cases e
 ·exact hb j o' hj e
theorem Pres.le {b c : Nat} {σ σ' : List O} (x : Pres b σ σ') (h : c <= b) : Pres c σ σ' := ⟨x.len, fun d hd => x.bel d (Nat.le_trans hd h)⟩
noncomputable def Tk (κ : Kw) (n : Tok) (s : Shared) : Prop := (0 < n /\ ∀ t, n <= t -> κ.τ.f t = Str.empty) /\ s.gens = #[] /\ s.os = κ.τ.os
theorem Tk.pos {κ : Kw} {n : Tok} {s : Shared} (x : Tk κ n s) : 0 < n := x.1.1
theorem Tk.tok {κ : Kw} {n : Tok} {s : Shared} (x : Tk κ n s) : ∀ t, n <= t -> κ.τ.f t = Str.empty := x.1.2
theorem Tk.le {κ : Kw} {n m : Tok} {s : Shared} (x : Tk κ n s) (h : n <= m) : Tk κ m s := ⟨⟨Nat.lt_of_lt_of_le x.pos h, fun t q => x.tok t (Nat.le_trans h q)⟩, x.2⟩
theorem Tk.succ {κ : Kw} {n : Tok} {s : Shared} (x : Tk κ n s) : Tk κ (n + 1) s := x.le (Nat.le_succ _)
theorem Tk.same {κ κ' : Kw} {n : Tok} {s : Shared} (x : Tk κ n s) (e : κ'.τ = κ.τ) : Tk κ' n s := ⟨⟨x.pos, fun t q => by rw [e]; exact x.tok t q⟩, by rw [e]; exact x.2⟩
noncomputable def Og (s s' : Shared) : Prop := s'.gens = s.gens /\ s'.os = s.os
theorem Tk.og {κ : Kw} {n : Tok} {s s' : Shared} (x : Tk κ n s) (o : Og s s') : Tk κ n s' := ⟨x.1, o.1.trans x.2.1, o.2.trans x.2.2⟩
noncomputable def Kw.mint (κ : Kw) (t : Tok) (c : Str) : Kw := { κ with τ := ⟨fun u => if u = t then c else κ.τ.f u, κ.τ.os⟩ }
theorem Tk.mint {κ : Kw} {n : Tok} {s : Shared} (x : Tk κ n s) (c : Str) : Tk (κ.mint n c) (n + 1) s :=
 ⟨⟨Nat.succ_pos _, fun t q => by
  show (if t = n then c else κ.τ.f t) = _
  rw [if_neg (Nat.ne_of_gt q)]
  exact x.tok t (Nat.le_of_succ_le q)⟩, x.2⟩
theorem Kle.mint {κ : Kw} {n : Tok} {s : Shared} (x : Tk κ n s) (c : Str) : Kle κ (κ.mint n c) := ⟨Ext.rfl, List.prefix_rfl, fun t h => by
 show (if t = n then c else κ.τ.f t) = _
 rw [if_neg fun e => h (x.tok t (Nat.le_of_eq e.symm))], .refl _⟩
structure Sim (w : World) (κ : Kw) (s : Shared) (σ : List O) (rest : List (Addr × Sh)) : Prop where
 hp : Simh w κ s.heap σ rest
 tk : Tk κ s.toks s
theorem rel_mint {w : World} {κ : Kw} {n : Tok} {s : Shared} (x : Tk κ n s) (c : Str) : Rel w (κ.mint n c) (.str c) (.str c n) := ⟨n, rfl, fun _ => ⟨Nat.ne_of_gt x.pos, if_pos rfl⟩⟩
theorem Simh.mono {w : World} {κ κ' : Kw} {h : Heap} {σ : List O} {rest : List (Addr × Sh)} (S : Simh w κ h σ rest) (k : Kle κ κ') (eh : κ'.h = κ.h) (e : κ'.ρ = κ.ρ) : Simh w κ' h σ rest := by
 obtain ⟨shs, hl, r, s⟩ := S.ex
 exact ⟨⟨shs, by rw [e]; exact hl, r.mono k, by rw [e, eh]; exact s⟩⟩
section
variable {w : World} {κ κ' : Kw} {s : Shared} {h' : Heap} {σ : List O} {k : Nat} {o : O} {sh : Sh} {rest rest' : List (Addr × Sh)} {a : Addr}
theorem Sim.keeps (S : Sim w κ s σ rest) (x : Ext s.heap h') : Simh w κ h' σ rest := S.hp.keeps x
theorem Sim.led (S : Sim w κ s σ rest) : ∃ l, Led w κ s.heap σ rest l := S.hp.led
theorem Sim.pop (S : Sim w κ s σ ((a, sh) :: rest)) : ∃ l, Led w κ s.heap σ rest l /\ St w κ.h s.heap ((a, sh) :: l) := S.hp.pop
theorem Sim.rPm (S : Sim w κ s σ rest) (p : rest.Perm rest') : Sim w κ s σ rest' := ⟨S.hp.rPm p, S.tk⟩
theorem Sim.rest_tail {p} (S : Sim w κ s σ (p :: rest)) : Sim w κ s σ rest := ⟨S.hp.rest_tail, S.tk⟩
theorem Sim.len (S : Sim w κ s σ rest) : κ.ρ.length = σ.length := S.hp.len
theorem Sim.keep (S : Sim w κ s σ rest) : Ext κ.h s.heap := S.hp.keep
end
end Mine
end
section
local macro_rules | `(tactic| cases $h:ident) => `(tactic| first | exact Mine.nS $h | exact Mine.fT $h | cases ($h))
section
open PySem PySem.W PyProof.Rows PySem.Calls
namespace Mine
theorem lim_eq : lim = 100000 := rfl
theorem Rels.len {w : World} {κ : Kw} : ∀ {vs : List V} {vs' : List Value}, Rels w κ vs vs' -> vs'.length = vs.length
 | [], _, h => by subst h; rfl
 | _ :: _, _, ⟨_, _, e, _, t⟩ => by subst e; simp [Rels.len t]
theorem Rels.get {w : World} {κ : Kw} : ∀ {vs : List V} {vs' : List Value}, Rels w κ vs vs' -> ∀ {k : Nat} {v : V}, vs[k]? = some v -> ∃ v', vs'[k]? = some v' /\ Rel w κ v v'
 | [], _, _, _, _, e => by simp at e
 | _ :: _, _, ⟨_, _, q, r, t⟩, 0, _, e => by subst q; simp at e; subst e; exact ⟨_, rfl, r⟩
 | _ :: _, _, ⟨_, _, q, r, t⟩, k + 1, _, e => by subst q; simp at e; exact Rels.get t e
theorem Rels.app {w : World} {κ : Kw} : ∀ {vs ws : List V} {vs' ws' : List Value}, Rels w κ vs vs' -> Rels w κ ws ws' -> Rels w κ (vs ++ ws) (vs' ++ ws')
 | [], _, _, _, h, k => by subst h; exact k
 | _ :: _, _, _, _, ⟨_, _, e, r, t⟩, k => by subst e; exact ⟨_, _, rfl, r, Rels.app t k⟩
theorem Rels.one {w : World} {κ : Kw} {v : V} {v' : Value} (h : Rel w κ v v') : Rels w κ [v] [v'] := ⟨_, _, rfl, h, rfl⟩
theorem Rels.take {w : World} {κ : Kw} : ∀ {vs : List V} {vs' : List Value}, Rels w κ vs vs' -> ∀ n, Rels w κ (vs.take n) (vs'.take n)
 | [], _, h, n => by subst h; simp [Rels]
 | _ :: _, _, _, 0 => by simp [Rels]
 | _ :: _, _, ⟨_, _, e, r, t⟩, n + 1 => by subst e; exact ⟨_, _, rfl, r, Rels.take t n⟩
theorem Rels.drop {w : World} {κ : Kw} : ∀ {vs : List V} {vs' : List Value}, Rels w κ vs vs' -> ∀ n, Rels w κ (vs.drop n) (vs'.drop n)
 | [], _, h, n => by subst h; simp [Rels]
 | _ :: _, _, h, 0 => h
 | _ :: _, _, ⟨_, _, e, r, t⟩, n + 1 => by subst e; exact Rels.drop t n
theorem Rels.erase {w : World} {κ : Kw} : ∀ {vs : List V} {vs' : List Value}, Rels w κ vs vs' -> ∀ n, Rels w κ (vs.eraseIdx n) (vs'.eraseIdx n)
 | [], _, h, n => by subst h; simp [Rels]
 | _ :: _, _, ⟨_, _, e, r, t⟩, 0 => by subst e; exact t
 | _ :: _, _, ⟨_, _, e, r, t⟩, n + 1 => by subst e; exact ⟨_, _, rfl, r, Rels.erase t n⟩
theorem Rels.set {w : World} {κ : Kw} : ∀ {vs : List V} {vs' : List Value}, Rels w κ vs vs' -> ∀ n {v v'}, Rel w κ v v' -> Rels w κ (vs.set n v) (vs'.set n v')
 | [], _, h, n, _, _, _ => by subst h; simp [Rels]
 | _ :: _, _, ⟨_, _, e, r, t⟩, 0, _, _, k => by subst e; exact ⟨_, _, rfl, k, t⟩
 | _ :: _, _, ⟨_, _, e, r, t⟩, n + 1, _, _, k => by subst e; exact ⟨_, _, rfl, r, Rels.set t n k⟩
theorem Rels.rep {w : World} {κ : Kw} {vs : List V} {vs' : List Value} (h : Rels w κ vs vs') : ∀ n, Rels w κ (List.replicate n vs).flatten (List.replicate n vs').flatten
 | 0 => rfl
 | n + 1 => by rw [List.replicate_succ, List.replicate_succ, List.flatten_cons, List.flatten_cons]; exact h.app (Rels.rep h n)
theorem Rels.mem {w : World} {κ : Kw} : ∀ {vs : List V} {vs' : List Value}, Rels w κ vs vs' -> ∀ {v'}, v' ∈ vs' -> ∃ v, v ∈ vs /\ Rel w κ v v'
 | [], _, h, _, e => by subst h; cases e
 | _ :: _, _, ⟨_, _, q, r, t⟩, _, e => by
  subst q
  rcases List.mem_cons.mp e with rfl | e
  ·exact ⟨_, .head _, r⟩
  ·obtain ⟨v, m, r⟩ := Rels.mem t e; exact ⟨v, .tail _ m, r⟩
theorem Reld.at' {w : World} {κ : Kw} : ∀ {vs : List (Str × V)} {vs' : List (Str × Value)}, Reld w κ vs vs' -> ∀ {k : Nat} {x : Str} {v : V}, vs[k]? = some (x, v) -> ∃ v', vs'[k]? = some (x, v') /\ Rel w κ v v'
 | [], _, _, _, _, _, e => by simp at e
 | (_, _) :: _, _, ⟨_, _, q, r, t⟩, 0, _, _, e => by subst q; simp at e; obtain ⟨rfl, rfl⟩ := e; exact ⟨_, rfl, r⟩
 | (_, _) :: _, _, ⟨_, _, q, r, t⟩, k + 1, _, _, e => by subst q; simp at e; exact Reld.at' t e
theorem Reld.len {w : World} {κ : Kw} : ∀ {vs : List (Str × V)} {vs' : List (Str × Value)}, Reld w κ vs vs' -> vs'.length = vs.length
 | [], _, h => by subst h; rfl
 | (_, _) :: _, _, ⟨_, _, e, _, t⟩ => by subst e; simp [Reld.len t]
theorem bits_lt {x : Int} (h : x.natAbs < big) : Builtin.Int.intBits x <= 2000000 := by
 unfold Builtin.Int.intBits
 split
 ·lia
 ·rename_i h0
  have h0 : x.natAbs ≠ 0 := by simpa using h0
  have := (Nat.log2_lt h0).mpr h
  lia
theorem mulOk {x y : Int} (h : x.natAbs < big) (h' : y.natAbs < big) : IntMulOk x y := by
 have a := bits_lt h
 have b := bits_lt h'
 unfold IntMulOk Builtin.Int.intTooBig
 intro q
 simp only [Bool.and_eq_true, decide_eq_true_eq] at q
 have : (bitsLine : Int) = 2 ^ 27 := by decide +kernel
 lia
section
variable {α β γ δ : Type} {w : World} {A : Around} {base : Nat} {κ : Kw} {rest l : List (Addr × Sh)} {σ σ' : List O} {v : V} {v' : Value}
noncomputable abbrev Tr (β : Type) := (β -> Shared -> Prop) -> (Value -> Shared -> Prop) -> Shared -> Prop
noncomputable def TelT (w : World) (base : Nat) (κ : Kw) (rest : List (Addr × Sh)) (R : Kw -> α -> β -> Prop) (σ : List O) (m : M α) (W : Tr β) : Prop :=
 ∀ a σ', m σ = some (a, σ') -> base <= σ.length -> ∀ (s : Shared) E Q, Sim w κ s σ rest ->
  (∀ κ' b s', Kle κ κ' -> R κ' a b -> Sim w κ' s' σ' rest -> Pres base σ σ' -> Q b s') -> W Q E s
noncomputable def Tel (w : World) (A : Around) (base : Nat) (κ : Kw) (rest : List (Addr × Sh)) (R : Kw -> α -> β -> Prop) (m : M α) (t : Sem β) : Prop :=
 ∀ σ, TelT w base κ rest R σ m (wpAny (model prg w) A t)
variable {R : Kw -> α -> β -> Prop} {R1 : Kw -> γ -> δ -> Prop} {m : M α} {m1 : M γ} {f : γ -> M α} {W : Tr β}
theorem bindC {σ : List O} {r : α × List O} (h : (m1 >>= f) σ = some r) : ∀ {P : Prop}, (∀ a σ1, m1 σ = some (a, σ1) -> f a σ1 = some r -> P) -> P := by
 change (m1 σ).bind (fun p => f p.1 p.2) = _ at h
 cases q : m1 σ with
 | none => rw [q] at h; cases h
 | some p => rw [q] at h; exact fun k => k p.1 p.2 rfl h
theorem bindK {β : Type} {k : Nat} {f : O -> M β} {σ : List O} {r} (h : (look k >>= f) σ = some r) {P : Prop} (t : ∀ o, σ[k]? = some o -> f o σ = some r -> P) : P := bindC h fun o _ e q => by
 obtain ⟨o, e1, e2⟩ := Option.map_eq_some_iff.mp e
 cases e2
 exact t _ e1 q
theorem bindL {α β : Type} {y : Option α} {f : α -> M β} {σ : List O} {r} (h : (liftO y >>= f) σ = some r) {P : Prop} (t : ∀ c, y = some c -> f c σ = some r -> P) : P := bindC h fun o _ e q => by
 obtain ⟨o, e1, e2⟩ := Option.map_eq_some_iff.mp e
 cases e2
 exact t _ e1 q
theorem bindG {β : Type} {c : Bool} {f : Unit -> M β} {σ : List O} {r} (h : (guardM c >>= f) σ = some r) {P : Prop} (t : c = true -> f () σ = some r -> P) : P := bindC h fun o _ e q => by
 obtain ⟨c, e⟩ := Option.ite_none_right_eq_some.mp (show (if c then some ((), σ) else none) = _ from e)
 cases e; exact t c q
theorem bindA {β : Type} {o : O} {f : Nat -> M β} {σ : List O} {r} (h : (alloc o >>= f) σ = some r) {P : Prop} (t : f σ.length (σ ++ [o]) = some r -> P) : P := t h
theorem bindP {β : Type} {k : Nat} {o : O} {f : Unit -> M β} {σ : List O} {r} (h : (put k o >>= f) σ = some r) {P : Prop} (t : f () (σ.set k o) = some r -> P) : P := bindC h fun _ _ e q => by
 obtain ⟨-, e⟩ := Option.ite_none_right_eq_some.mp (show (if k < σ.length then some ((), σ.set k o) else none) = _ from e)
 cases e; exact t q
theorem putR_inv {α : Type} {k : Nat} {o : O} {a : α} {σ : List O} {r} (h : putR k o a σ = some r) : r = (a, σ.set k o) := by
 obtain ⟨-, e⟩ := Option.ite_none_right_eq_some.mp (show (if k < σ.length then some (a, σ.set k o) else none) = _ from h)
 exact (Option.some.inj e).symm
theorem TelT.bind {W1 : Tr δ} {W2 : δ -> Tr β} (h1 : TelT w base κ rest R1 σ m1 W1) (h2 : ∀ {κ' a b σ'}, Kle κ κ' -> R1 κ' a b -> TelT w base κ' rest R σ' (f a) (W2 b)) :
  TelT w base κ rest R σ (m1 >>= f) fun Q E => W1 (fun b => W2 b Q E) E := fun a σ' hm hb s E Q S k =>
 bindC hm fun _ _ e1 e2 => h1 _ _ e1 hb s E _ S fun _ _ _ k1 r1 S1 p1 => h2 k1 r1 _ _ e2 (Nat.le_trans hb p1.len) _ E Q S1 fun κ' b s' k2 r S2 p2 => k κ' b s' (k1.trans k2) r S2 (p1.trans p2)
theorem TelT.imp {W' : Tr β} (h : TelT w base κ rest R σ m W) (i : ∀ Q E s, W Q E s -> W' Q E s) : TelT w base κ rest R σ m W' := fun a σ' hm hb s E Q S k => i _ _ _ (h a σ' hm hb s E Q S k)
theorem TelT.done {a : α} (b : β) (r : R κ a b) : TelT w base κ rest R σ (pure a) fun Q _ s => Q b s := fun _ _ e _ s E Q S k => by cases e; exact k κ b s Kle.rfl r S Pres.rfl
theorem TelT.new {o : Obj} {sh : Sh} {W' : Addr -> Tr β} (ho : sh.ok w o) (hf : o.isFreed = false) (h : ∀ κ' x, Kle κ κ' -> Has w κ'.h x sh -> TelT w base κ' rest R σ m (W' x)) :
  TelT w base κ rest R σ m fun Q E s => W' s.heap.objs.size Q E { s with heap := s.heap.push o } := fun a σ' hm hb s E Q S k => by
 obtain ⟨l, D⟩ := S.led
 obtain ⟨h₁, x₁, f, S₁⟩ := D.frz _ _ _ (D.st.push ho hf)
 exact h ⟨h₁, κ.ρ, κ.τ⟩ _ (Kle.ext x₁) f a σ' hm hb _ E Q ⟨S₁, S.tk.same rfl⟩ fun κ' b s' k1 => k κ' b s' ((Kle.ext x₁).trans k1)
theorem TelT.fail : TelT w base κ rest R σ fail W := nofun
theorem TelT.guard {c : Bool} {f : Unit -> M α} (h : c = true -> TelT w base κ rest R σ (f ()) W) : TelT w base κ rest R σ (guardM c >>= f) W := fun a σ' hm => by
 cases c with
 | false => cases hm
 | true => exact h rfl a σ' hm
theorem TelT.lift {x : Option γ} (h : ∀ y, x = some y -> TelT w base κ rest R σ (f y) W) : TelT w base κ rest R σ (liftO x >>= f) W := fun a σ' hm => by
 cases x with
 | none => cases hm
 | some y => exact h y rfl a σ' hm
theorem TelT.lift1 {x : Option α} (h : ∀ y, x = some y -> TelT w base κ rest R σ (pure y) W) : TelT w base κ rest R σ (liftO x) W := fun a σ' hm => by
 cases x with
 | none => cases hm
 | some y => exact h y rfl a σ' hm
theorem TelT.look {k : Nat} {f : O -> M α} (h : ∀ o, σ[k]? = some o -> TelT w base κ rest R σ (f o) W) : TelT w base κ rest R σ (look k >>= f) W := fun a σ' hm => bindC hm fun o σ1 e1 e2 => by
 unfold Mine.look at e1
 cases q : σ[k]? with
 | none => rw [q] at e1; cases e1
 | some o => rw [q] at e1; cases e1; exact h _ q a σ' e2
theorem TelT.assoc {m0 : M α} {f1 : α -> M γ} {f2 : γ -> M δ} {R : Kw -> δ -> β -> Prop} (h : TelT w base κ rest R σ (m0 >>= fun x => f1 x >>= f2) W) : TelT w base κ rest R σ ((m0 >>= f1) >>= f2) W := fun a σ' hm => h a σ' (by
 change ((m0 σ).bind fun p => f1 p.1 p.2).bind (fun p => f2 p.1 p.2) = _ at hm
 change (m0 σ).bind (fun p => (f1 p.1 p.2).bind fun q => f2 q.1 q.2) = _
 rw [<- Option.bind_assoc]; exact hm)
theorem TelT.ite {c : Prop} [Decidable c] {m2 : M α} (h1 : c -> TelT w base κ rest R σ m W) (h2 : ¬ c -> TelT w base κ rest R σ m2 W) : TelT w base κ rest R σ (if c then m else m2) W := by
 by_cases h : c
 ·rw [if_pos h]; exact h1 h
 ·rw [if_neg h]; exact h2 h
noncomputable def TelF (w : World) (base : Nat) (κ : Kw) (rest : List (Addr × Sh)) (F : Kw -> α -> β -> List O -> Shared -> Prop) (σ : List O) (m : M α) (W : Tr β) : Prop :=
 ∀ a σ', m σ = some (a, σ') -> base <= σ.length -> ∀ (s : Shared) E Q, Sim w κ s σ rest -> (∀ κ' b s', Kle κ κ' -> F κ' a b σ' s' -> Pres base σ σ' -> Q b s') -> W Q E s
variable {F : Kw -> α -> β -> List O -> Shared -> Prop}
theorem TelF.bind {W1 : Tr δ} {W2 : δ -> Tr β} (h1 : TelT w base κ rest R1 σ m1 W1) (h2 : ∀ {κ' a b σ'}, Kle κ κ' -> R1 κ' a b -> TelF w base κ' rest F σ' (f a) (W2 b)) :
  TelF w base κ rest F σ (m1 >>= f) fun Q E => W1 (fun b => W2 b Q E) E := fun a σ' hm hb s E Q S k =>
 bindC hm fun _ _ e1 e2 => h1 _ _ e1 hb s E _ S fun _ _ _ k1 r1 S1 p1 => h2 k1 r1 _ _ e2 (Nat.le_trans hb p1.len) _ E Q S1 fun κ' b s' k2 r p2 => k κ' b s' (k1.trans k2) r (p1.trans p2)
theorem TelF.imp {W' : Tr β} (h : TelF w base κ rest F σ m W) (i : ∀ Q E s, W Q E s -> W' Q E s) : TelF w base κ rest F σ m W' := fun a σ' hm hb s E Q S k => i _ _ _ (h a σ' hm hb s E Q S k)
theorem TelF.fail : TelF w base κ rest F σ fail W := nofun
theorem TelF.guard {c : Bool} {f : Unit -> M α} (h : c = true -> TelF w base κ rest F σ (f ()) W) : TelF w base κ rest F σ (guardM c >>= f) W := fun a σ' hm => by
 cases c with
 | false => cases hm
 | true => exact h rfl a σ' hm
theorem TelF.lift {x : Option γ} (h : ∀ y, x = some y -> TelF w base κ rest F σ (f y) W) : TelF w base κ rest F σ (liftO x >>= f) W := fun a σ' hm => by
 cases x with
 | none => cases hm
 | some y => exact h y rfl a σ' hm
theorem TelF.look {k : Nat} {f : O -> M α} (h : ∀ o, σ[k]? = some o -> TelF w base κ rest F σ (f o) W) : TelF w base κ rest F σ (look k >>= f) W := fun a σ' hm => bindC hm fun o σ1 e1 e2 => by
 unfold Mine.look at e1
 cases q : σ[k]? with
 | none => rw [q] at e1; cases e1
 | some o => rw [q] at e1; cases e1; exact h _ q a σ' e2
theorem TelF.ite {c : Prop} [Decidable c] {m2 : M α} (h1 : c -> TelF w base κ rest F σ m W) (h2 : ¬ c -> TelF w base κ rest F σ m2 W) : TelF w base κ rest F σ (if c then m else m2) W := by
 by_cases h : c
 ·rw [if_pos h]; exact h1 h
 ·rw [if_neg h]; exact h2 h
theorem TelF.listAt {k : Nat} {f : List V -> M α} (h : ∀ vs, σ[k]? = some (.list vs) -> TelF w base κ rest F σ (f vs) W) : TelF w base κ rest F σ (Mine.listAt k >>= f) W := fun a σ' hm => bindC hm fun vs σ1 e1 e2 => bindC e1 fun o σ2 e3 e4 => by
 unfold Mine.look at e3
 cases q : σ[k]? with
 | none => rw [q] at e3; cases e3
 | some o =>
  rw [q] at e3; cases e3
  cases o with
  | list us => cases e4; exact h _ q a σ' e2
  | _ => cases e4
noncomputable def FT (w : World) (rest : List (Addr × Sh)) (R : Kw -> α -> β -> Prop) (κ : Kw) (a : α) (b : β) (σ : List O) (s : Shared) : Prop := R κ a b /\ Sim w κ s σ rest
theorem TelT.toF (h : TelT w base κ rest R σ m W) : TelF w base κ rest (FT w rest R) σ m W := fun a σ' hm hb s E Q S k => h a σ' hm hb s E Q S fun κ' b s' k1 r S1 => k κ' b s' k1 ⟨r, S1⟩
theorem TelF.toT (h : TelF w base κ rest (FT w rest R) σ m W) : TelT w base κ rest R σ m W := fun a σ' hm hb s E Q S k => h a σ' hm hb s E Q S fun κ' b s' k1 r => k κ' b s' k1 r.1 r.2
theorem TelT.leaf {t : Sem β} (h : ∀ a σ', m σ = some (a, σ') -> base <= σ.length -> ∀ (s : Shared) E Q, Sim w κ s σ rest ->
   (∀ κ' b s', Kle κ κ' -> R κ' a b -> Simh w κ' s'.heap σ' rest -> Pres base σ σ' -> (_ : Tk κ' s'.toks s' ∨ (κ'.τ = κ.τ /\ Og s s') := by exact .inr ⟨rfl, rfl, rfl⟩) -> Q b s') -> wpAny (model prg w) A t Q E s) :
  TelT w base κ rest R σ m (wpAny (model prg w) A t) :=
 fun a σ' hm hbl s E _ S hQ => wpUp (h a σ' hm hbl s E _ S fun κ' b s' k r S' p e q => hQ κ' b s' k r ⟨S', e.elim id fun e => ((S.tk.same e.1).le q).og e.2⟩ p)
theorem TelT.rd {a : α} {t : Sem β} (h : ∀ (s : Shared) E Q l, Led w κ s.heap σ rest l -> (∀ b tk, R κ a b -> Q b { s with toks := tk }) -> wpAny (model prg w) A t Q E s) : TelT w base κ rest R σ (pure a) (wpAny (model prg w) A t) :=
 TelT.leaf fun b σ' e hb s E Q S k => by
  cases e
  obtain ⟨l, D⟩ := S.led
  exact h s E Q l D fun b tk r => k κ b _ Kle.rfl r S.hp Pres.rfl
theorem TelT.val {t : Sem Value} (h : ∀ (s : Shared) E Q l, Led w κ s.heap σ rest l ->
   (∀ sh x h' tk, (∀ κ', Kle κ κ' -> Has w κ'.h x sh -> x ≠ 1 -> Rel w κ' v (.ref x)) -> St w κ.h h' ((x, sh) :: l) -> Q (.ref x) { s with heap := h', toks := tk }) -> wpAny (model prg w) A t Q E s) : TelT w base κ rest (Rel w) σ (pure v) (wpAny (model prg w) A t) :=
 TelT.leaf fun b σ' e hb s E Q S k => by
  refine hd fun P0 q0 => ?_
  cases e
  obtain ⟨l, D⟩ := S.led
  refine q0 ?_
  refine h s E Q l D fun sh x h' tk hr S' => ?_
  refine hd fun P0 q0 => ?_
  obtain ⟨h₁, x₁, f, S₁⟩ := D.frz _ _ _ S'
  refine q0 ?_
  exact k ⟨h₁, κ.ρ, κ.τ⟩ _ _ (Kle.ext x₁) (hr _ (Kle.ext x₁) f (S'.pos _ (.head _))) S₁ Pres.rfl
theorem TelT.vlist {vs : List V} {t : Sem Value}
  (h : ∀ (s : Shared) E Q l, Led w κ s.heap σ rest l -> (∀ vs' x h' tk, Rels w κ vs vs' -> St w κ.h h' ((x, .list vs') :: l) -> Q (.ref x) { s with heap := h', toks := tk }) -> wpAny (model prg w) A t Q E s) : TelT w base κ rest (Rel w) σ (pure (.list vs)) (wpAny (model prg w) A t) :=
 .val fun s E Q l D k => h s E Q l D fun vs' x h' tk r => k _ x h' tk fun _ k f _ => ⟨x, vs', rfl, f, Rels.mono k _ _ r⟩
theorem TelT.vtup {vs : List V} {t : Sem Value}
  (h : ∀ (s : Shared) E Q l, Led w κ s.heap σ rest l -> (∀ vs' x h' tk, Rels w κ vs vs' -> St w κ.h h' ((x, .tup vs') :: l) -> Q (.ref x) { s with heap := h', toks := tk }) -> wpAny (model prg w) A t Q E s) : TelT w base κ rest (Rel w) σ (pure (.tup vs)) (wpAny (model prg w) A t) :=
 .val fun s E Q l D k => h s E Q l D fun vs' x h' tk r => k _ x h' tk fun _ k f _ => ⟨x, vs', rfl, f, Rels.mono k _ _ r⟩
theorem TelT.mint {x : Str} {t : Sem Value} (h : ∀ (s : Shared) E Q l, Led w κ s.heap σ rest l -> Q (.str x s.toks) { s with toks := s.toks + 1 } -> wpAny (model prg w) A t Q E s) : TelT w base κ rest (Rel w) σ (pure (.str x)) (wpAny (model prg w) A t) :=
 TelT.leaf fun b σ' e hb s E Q S k => by
  cases e
  obtain ⟨l, D⟩ := S.led
  exact h s E Q l D (k (κ.mint s.toks x) _ _ (Kle.mint S.tk _) (rel_mint S.tk _) (S.hp.mono (Kle.mint S.tk _) rfl rfl) Pres.rfl (.inl (S.tk.mint _)))
theorem TelT.put {a : α} {k : Nat} {x : Addr} {o o2 : O} {t : Sem β} (hx : κ.ρ[k]? = some x) (ho : σ[k]? = some o) (hb : ∀ c, c <= base -> k < c -> o.bel c -> o2.bel c)
  (h : ∀ (s : Shared) E Q l sh, St w κ.h s.heap l -> ORel w κ o sh -> (x, sh) ∈ l -> (∀ sh2, ORel w κ o2 sh2 -> ∃ l', Rep x sh sh2 l l' /\ ∀ h' b tk, St w κ.h h' l' -> R κ a b -> Q b { s with heap := h', toks := tk }) -> wpAny (model prg w) A t Q E s) :
  TelT w base κ rest R σ (putR k o2 a) (wpAny (model prg w) A t) :=
 TelT.leaf fun b σ' e hbl s E Q S kk => by
  obtain ⟨l, D⟩ := S.led
  unfold putR at e
  split at e
  case isFalse => cases e
  cases e
  obtain ⟨x', sh, hx', ro, m, upd⟩ := D.get _ _ ho
  rw [hx] at hx'; cases hx'
  refine h s E Q l sh D.st ro m fun sh2 r2 => ?_
  obtain ⟨l', rp, back⟩ := upd o2 sh2 r2
  exact ⟨l', rp, fun h' b tk S' r => kk κ b _ Kle.rfl r (back _ S') (Pres.set fun c hc hk hb2 => hb c hc hk (hb2 k _ hk ho))⟩
theorem TelT.putL {a : α} {k : Nat} {x : Addr} {vs ws : List V} {t : Sem β} (hx : κ.ρ[k]? = some x) (ho : σ[k]? = some (.list vs)) (hb : ∀ c, c <= base -> k < c -> V.bels c vs -> V.bels c ws)
  (h : ∀ (s : Shared) E Q l vs', St w κ.h s.heap l -> Rels w κ vs vs' -> (∀ ws', Rels w κ ws ws' -> ∃ l', Rep x (.list vs') (.list ws') l l' /\ ∀ h' b tk, St w κ.h h' l' -> R κ a b -> Q b { s with heap := h', toks := tk }) -> wpAny (model prg w) A t Q E s) :
  TelT w base κ rest R σ (putR k (.list ws) a) (wpAny (model prg w) A t) :=
 .put hx ho hb fun s E Q l sh S ro m k => by
  obtain ⟨vs', rfl, r⟩ := ro
  exact h s E Q l vs' S r fun ws' r2 => k _ ⟨_, rfl, r2⟩
theorem TelT.putD {a : α} {k : Nat} {x : Addr} {vs ws : List (Str × V)} {t : Sem β} (hx : κ.ρ[k]? = some x) (ho : σ[k]? = some (.dict vs)) (hb : ∀ c, c <= base -> k < c -> V.beld c vs -> V.beld c ws)
  (h : ∀ (s : Shared) E Q l vs', St w κ.h s.heap l -> (x, .dict vs') ∈ l -> Reld w κ vs vs' -> (∀ ws', Reld w κ ws ws' -> ∃ l', Rep x (.dict vs') (.dict ws') l l' /\ ∀ h' b tk, St w κ.h h' l' -> R κ a b -> Q b { s with heap := h', toks := tk }) -> wpAny (model prg w) A t Q E s) :
  TelT w base κ rest R σ (putR k (.dict ws) a) (wpAny (model prg w) A t) :=
 .put hx ho hb fun s E Q l sh S ro m k => by
  obtain ⟨vs', rfl, r⟩ := ro
  exact h s E Q l vs' S m r fun ws' r2 => k _ ⟨_, rfl, r2⟩
theorem int_inv {v : V} {i : Int} (h : v.int? = some i) : v = .int i := by cases v <;> cases h <;> rfl
theorem str_inv {v : V} {i : Str} (h : v.str? = some i) : v = .str i := by cases v <;> cases h <;> rfl
theorem bool_inv {v : V} {i : Bool} (h : v.bool? = some i) : v = .bool i := by cases v <;> cases h <;> rfl
theorem tup_inv {v : V} {i : List V} (h : v.tup? = some i) : v = .tup i := by cases v <;> cases h <;> rfl
theorem list_inv {v : V} {i : List V} (h : v.list? = some i) : v = .list i := by cases v <;> cases h <;> rfl
theorem dict_inv {v : V} {i : List (Str × V)} (h : v.dict? = some i) : v = .dict i := by cases v <;> cases h <;> rfl
theorem ref_inv {v : V} {i : Nat} (h : v.ref? = some i) : v = .ref i := by cases v <;> cases h <;> rfl
theorem inst_inv {v : V} {i : Addr × Nat} (h : v.inst? = some i) : v = .inst i.1 i.2 := by cases v <;> cases h <;> rfl
theorem none_inv {v : V} {i : Unit} (h : v.none? = some i) : v = .none := by cases v <;> cases h <;> rfl
theorem oList_inv {o : O} {vs : List V} (h : oList o = some vs) : o = .list vs := by cases o <;> cases h <;> rfl
theorem oDict_inv {o : O} {vs : List (Str × V)} (h : oDict o = some vs) : o = .dict vs := by cases o <;> cases h <;> rfl
theorem oCell_inv {o : O} {v : Option V} (h : oCell o = some v) : o = .cell v := by cases o <;> cases h <;> rfl
theorem oIter_inv {o : O} {v : Option V} (h : oIter o = some v) : o = .citer v := by cases o <;> cases h <;> rfl
theorem one_inv {x : List γ} {a : γ} (h : one x = some a) : x = [a] := by
 unfold one at h
 split at h <;> cases h
 rfl
theorem two_inv {x : List γ} {a : γ × γ} (h : two x = some a) : x = [a.1, a.2] := by
 unfold two at h
 split at h <;> cases h
 rfl
theorem TelT.int {f : Int -> M α} (r : Rel w κ v v') (h : ∀ i t, v = .int i -> v' = .int i t -> TelT w base κ rest R σ (f i) W) : TelT w base κ rest R σ (intV v >>= f) W :=
 .lift fun i e => by
  obtain rfl := int_inv e
  obtain ⟨t, rfl⟩ := r
  exact h i t rfl rfl
theorem TelT.str {f : Str -> M α} (r : Rel w κ v v') (h : ∀ x t, v = .str x -> v' = .str x t -> (isQ x = true -> t ≠ 0 /\ κ.τ.f t = x) -> TelT w base κ rest R σ (f x) W) : TelT w base κ rest R σ (strV v >>= f) W :=
 .lift fun i e => by
  obtain rfl := str_inv e
  obtain ⟨t, rfl, q⟩ := r
  exact h i t rfl rfl q
theorem TelT.bool {f : Bool -> M α} (r : Rel w κ v v') (h : ∀ b, v = .bool b -> v' = .bool b -> TelT w base κ rest R σ (f b) W) : TelT w base κ rest R σ (boolV v >>= f) W :=
 .lift fun i e => by
  obtain rfl := bool_inv e
  exact h i rfl r
theorem TelT.tup {f : List V -> M α} (r : Rel w κ v v') (h : ∀ vs a vs', v = .tup vs -> v' = .ref a -> Has w κ.h a (.tup vs') -> Rels w κ vs vs' -> TelT w base κ rest R σ (f vs) W) : TelT w base κ rest R σ (tupOf v >>= f) W :=
 .lift fun i e => by
  obtain rfl := tup_inv e
  obtain ⟨a, vs', rfl, x, y⟩ := r
  exact h i a vs' rfl rfl x y
theorem TelT.listV {f : List V -> M α} (r : Rel w κ v v') (h : ∀ vs a vs', v = .list vs -> v' = .ref a -> Has w κ.h a (.list vs') -> Rels w κ vs vs' -> TelT w base κ rest R σ (f vs) W) : TelT w base κ rest R σ (listV v >>= f) W :=
 .lift fun i e => by
  obtain rfl := list_inv e
  obtain ⟨a, vs', rfl, x, y⟩ := r
  exact h i a vs' rfl rfl x y
theorem TelT.ref {f : Nat -> M α} (r : Rel w κ v v') (h : ∀ k a, v = .ref k -> v' = .ref a -> κ.ρ[k]? = some a -> TelT w base κ rest R σ (f k) W) : TelT w base κ rest R σ (refV v >>= f) W :=
 .lift fun i e => by
  obtain rfl := ref_inv e
  obtain ⟨a, x, rfl⟩ := r
  exact h i a rfl rfl x
theorem TelT.inst {f : Addr × Nat -> M α} (r : Rel w κ v v') (h : ∀ C k a d, v = .inst C k -> v' = .ref a -> κ.ρ[k]? = some d -> Has w κ.h a (.exact (instObj C d)) -> TelT w base κ rest R σ (f (C, k)) W) : TelT w base κ rest R σ (instV v >>= f) W :=
 .lift fun i e => by
  obtain rfl := inst_inv e
  obtain ⟨a, d, x, rfl, y⟩ := r
  exact h _ _ a d rfl rfl x y
theorem ent_list {k : Nat} {a : Addr} {vs : List V} (hk : κ.ρ[k]? = some a) (ho : σ[k]? = some (.list vs)) {h : Heap} (D : Led w κ h σ rest l) : ∃ vs', Rels w κ vs vs' /\ (a, .list vs') ∈ l := by
 refine hd fun P0 q0 => ?_
 obtain ⟨a', sh, hk', ro, m, -⟩ := D.get _ _ ho
 rw [hk] at hk'; cases hk'
 obtain ⟨vs', rfl, r⟩ := ro
 refine q0 ?_
 exact ⟨vs', r, m⟩
theorem ent_dict {k : Nat} {a : Addr} {vs : List (Str × V)} (hk : κ.ρ[k]? = some a) (ho : σ[k]? = some (.dict vs)) {h : Heap} (D : Led w κ h σ rest l) : ∃ vs', Reld w κ vs vs' /\ (a, .dict vs') ∈ l := by
 refine hd fun P0 q0 => ?_
 obtain ⟨a', sh, hk', ro, m, -⟩ := D.get _ _ ho
 rw [hk] at hk'; cases hk'
 obtain ⟨vs', rfl, r⟩ := ro
 refine q0 ?_
 exact ⟨vs', r, m⟩
theorem TelT.listAt {k : Nat} {f : List V -> M α} (h : ∀ vs, σ[k]? = some (.list vs) -> TelT w base κ rest R σ (f vs) W) : TelT w base κ rest R σ (Mine.listAt k >>= f) W :=
 .assoc (.look fun o ho => .lift fun vs e => h vs (by rw [ho, oList_inv e]))
theorem TelT.dictAt {k : Nat} {f : List (Str × V) -> M α} (h : ∀ vs, σ[k]? = some (.dict vs) -> TelT w base κ rest R σ (f vs) W) : TelT w base κ rest R σ (Mine.dictAt k >>= f) W :=
 .assoc (.look fun o ho => .lift fun vs e => h vs (by rw [ho, oDict_inv e]))
noncomputable def LD (w : World) (κ : Kw) (rest : List (Addr × Sh)) (σ : List O) (a : Addr) (vs : List V) : Prop := ∀ h l, Led w κ h σ rest l -> ∃ vs', Rels w κ vs vs' /\ In2 w κ.h l a (.list vs')
noncomputable def DD (w : World) (κ : Kw) (rest : List (Addr × Sh)) (σ : List O) (a : Addr) (vs : List (Str × V)) : Prop := ∀ h l, Led w κ h σ rest l -> ∃ vs', Reld w κ vs vs' /\ In2 w κ.h l a (.dict vs') /\ a ≠ 1
theorem TelT.list {f : List V -> M α} (r : Rel w κ v v') (h : ∀ vs a, v' = .ref a -> LD w κ rest σ a vs -> TelT w base κ rest R σ (f vs) W) : TelT w base κ rest R σ (listOf v >>= f) W := by
 cases v with
 | list vs =>
  obtain ⟨a, vs', rfl, x, y⟩ := r
  exact h vs a rfl fun _ _ _ => ⟨vs', y, .inr x⟩
 | ref k =>
  obtain ⟨a, hk, rfl⟩ := r
  exact .listAt fun vs ho => h vs a rfl fun _ _ D => let ⟨vs', r, m⟩ := ent_list hk ho D; ⟨vs', r, .inl m⟩
 | _ => exact .fail
theorem TelT.dict {f : List (Str × V) -> M α} (r : Rel w κ v v') (h : ∀ vs a, v' = .ref a -> DD w κ rest σ a vs -> TelT w base κ rest R σ (f vs) W) : TelT w base κ rest R σ (dictOf v >>= f) W := by
 cases v with
 | dict vs =>
  obtain ⟨a, vs', rfl, x, y, z⟩ := r
  exact h vs a rfl fun _ _ _ => ⟨vs', y, .inr x, z⟩
 | ref k =>
  obtain ⟨a, hk, rfl⟩ := r
  exact .dictAt fun vs ho => h vs a rfl fun _ _ D => let ⟨vs', r, m⟩ := ent_dict hk ho D; ⟨vs', r, .inl m, D.st.pos _ m⟩
 | _ => exact .fail
theorem wr_bel {k : Nat} (h : (decide (base <= k) || v.simple) = true) : ∀ c, c <= base -> k < c -> v.bel c := fun c hc hk => by
 rw [Bool.or_eq_true] at h
 rcases h with h | h
 ·exact absurd (Nat.lt_of_lt_of_le hk hc) (Nat.not_lt.mpr (of_decide_eq_true h))
 ·exact V.simple.bel h
theorem TelT.wr {k : Nat} {f : Unit -> M α} (h : (∀ c, c <= base -> k < c -> v.bel c) -> TelT w base κ rest R σ (f ()) W) : TelT w base κ rest R σ (wrOk base k v >>= f) W := .guard fun e => h (wr_bel e)
end
end Mine
end
section
open PySem PySem.W PyProof.Rows PySem.Calls PySem.SeqAt
open AutoSeq1 (wpAny_loadPart')
namespace Mine
section
variable {w : World} {A : Around} {base : Nat} {κ : Kw} {rest l : List (Addr × Sh)} {σ σ' : List O} {h : Heap} {v a b : V} {v' a' b' : Value} {vs : List V} {s : Shared} {E : Value -> Shared -> Prop}
theorem addTupS {vs ws : List Value} {a b : Addr} {h₀ : Heap} {Q : Value -> Shared -> Prop} (S : St w h₀ s.heap l) (ra : In2 w h₀ l a (.tup vs)) (rb : In2 w h₀ l b (.tup ws)) (h1 : vs ≠ []) (h2 : ws ≠ []) (hz : vs.length + ws.length <= 100000)
  (h : ∀ a h', St w h₀ h' ((a, .tup (vs ++ ws)) :: l) -> Q (.ref a) { s with heap := h' }) : wpAny (model prg w) A (binaryOp .Add (.ref a) (.ref b)) Q E s := by
 refine hd fun P0 q0 => ?_
 obtain ⟨o, ho, n, rfl⟩ := ra.has S
 obtain ⟨o', ho', n', rfl⟩ := rb.has S
 refine q0 ?_
 exact P.add_tuple ho ho' (by simpa using h1) (by simpa using h2) (h _ _ (S.push ⟨0, by rw [List.append_toArray]⟩ rfl)) (by simp only [List.size_toArray]; exact sz hz)
theorem len_rep {vs : List Value} {n : Nat} : (List.replicate n vs).flatten.length = vs.length * n := by
 rw [List.length_flatten, List.map_replicate, List.sum_replicate_nat, Nat.mul_comm]
theorem mulListS {vs : List Value} {a : Addr} {h₀ : Heap} {n : Int} {u : Tok} {Q : Value -> Shared -> Prop} (S : St w h₀ s.heap l) (ra : In2 w h₀ l a (.list vs)) (hz : vs.length * n.toNat <= 100000) (hn : 0 <= n /\ n <= 100000)
  (h : ∀ a h', St w h₀ h' ((a, .list (List.replicate n.toNat vs).flatten) :: l) -> Q (.ref a) { s with heap := h' }) : wpAny (model prg w) A (binaryOp .Mult (.ref a) (.int n u)) Q E s := by
 refine hd fun P0 q0 => ?_
 obtain ⟨o, ho, -, k, rfl⟩ := ra.has S
 refine q0 ?_
 have e : List.foldl (fun x1 x2 => x1 ++ x2) #[] (List.replicate (if vs.toArray.isEmpty = true then 0 else n.toNat) vs.toArray) = (List.replicate n.toNat vs).flatten.toArray := by
  have g : ∀ (m : Nat) (acc : Array Value), List.foldl (fun x1 x2 => x1 ++ x2) acc (List.replicate m vs.toArray) = acc ++ (List.replicate m vs).flatten.toArray := by
   intro m
   induction m with
   | zero => intro acc; simp
   | succ m ih => intro acc; rw [List.replicate_succ, List.foldl_cons, ih, List.replicate_succ, List.flatten_cons]; simp
  rw [g]
  by_cases q : vs = []
  ·subst q; simp
  ·rw [if_neg (by simpa using q)]; simp
 exact wpAny_binaryOp_repeat_ref (T := "list") (U := "int") (by decide) ⟨_, ho, rfl⟩ (fun s' => typeIs_int s' n u) noFill_list_mul F.fills_int_mul F.slot_int_rmul repeat_list F.slot_int_index.lookup
  (call_meets F.slot_int_rmul (typeIs_int s n u) F.entry_int_rmul (F.args_int_rmul_2 _ _) (int___rmul___int_list n u a vs.toArray k)
   ⟨ho, rfl, ⟨_, ho, rfl⟩, call_meets F.slot_list_mul ⟨_, ho, rfl⟩ F.entry_list_mul (F.args_list_mul_2 _ _)
    (AutoListH.list___mul___list_int_3 a vs.toArray k n u (by simp [Builtin.List.listFitsIndex]; lia) (by simp only [List.size_toArray]; lia) (by simp only [Builtin.List.listTooLong, sizeLine_eq, List.size_toArray]; simp; lia))
    ⟨ho, h _ _ (S.push ⟨by rw [len_rep]; exact hz, 0, by rw [e]⟩ rfl)⟩⟩)
theorem pow_neg1 (n : Nat) : (-1 : Int) ^ n = if n % 2 = 0 then 1 else -1 := by
 induction n with
 | zero => rfl
 | succ n ih =>
  rw [Int.pow_succ, ih]
  rcases Nat.mod_two_eq_zero_or_one n with q | q
  ·rw [if_pos q, if_neg (by lia)]; rfl
  ·rw [if_neg (by lia), if_pos (by lia)]; rfl
theorem int_pow1 {x y : Int} (h0 : (y == 0) = false) (hy : 0 <= y) (h1 : (x == 0 || x == 1) = true) : x ^ y.toNat = x := by
 have : y.toNat ≠ 0 := by have := bne_iff_ne.mp (show (y != 0) = true by unfold bne; rw [h0]; rfl); lia
 rcases Bool.or_eq_true_iff.mp h1 with h | h
 ·rw [eq_of_beq h, Int.zero_pow this]
 ·rw [eq_of_beq h, Int.one_pow]
theorem big_line : (bitsLine : Int) = 2 ^ 27 := by decide +kernel
theorem pow_bits {x y : Int} (hx : x.natAbs < big) (h0 : 0 <= y) (h1 : y <= 16) : Builtin.Int.intTooBig (((Builtin.Int.intBits x : Nat) : Int) * y) = false := by
 have := bits_lt hx
 have h3 : ((Builtin.Int.intBits x : Nat) : Int) * y <= 2000000 * 16 := Int.mul_le_mul (by lia) h1 h0 (by decide)
 have hb := big_line
 exact decide_eq_false (by lia)
theorem pow_tel {x y : Int} {t u : Tok} (hy : 0 <= y) (h16 : y <= 16) (hx : x.natAbs < big) : TelT w base κ rest (Rel w) σ (pure (.int (x ^ y.toNat))) (wpAny (model prg w) A (binaryOp .Pow (.int x t) (.int y u))) := .rd fun s E Q l D k => by
 cases h0 : y == 0 with
 | true => exact AutoIntOps.pow_0 hy h0 (k _ _ ⟨_, by rw [eq_of_beq h0, Int.toNat_zero, Int.pow_zero]⟩)
 | false =>
  cases h1 : x == 0 || x == 1 with
  | true => exact AutoIntOps.pow_1 hy (by rw [h0]; exact Bool.false_ne_true) h1 (k _ _ ⟨s.toks, by rw [int_pow1 h0 hy h1]⟩)
  | false =>
   cases h2 : x == -1 with
   | true =>
    refine AutoIntOps.pow_2 hy (by rw [h0]; exact Bool.false_ne_true) (by rw [h1]; exact Bool.false_ne_true) h2 (k _ _ ⟨s.toks, ?_⟩)
    rw [eq_of_beq h2, pow_neg1]
    congr 1
    have e : (y % 2 == 0) = decide (y.toNat % 2 = 0) := by
     rw [Bool.eq_iff_iff, beq_iff_eq, decide_eq_true_eq]; lia
    rw [e]
    by_cases q : y.toNat % 2 = 0
    ·rw [if_pos q, if_pos (decide_eq_true q)]
    ·rw [if_neg q, if_neg (by rw [decide_eq_false q]; decide)]
   | false => exact AutoIntOps.pow_4 hy (by rw [h0]; exact Bool.false_ne_true) (by rw [h1]; exact Bool.false_ne_true) (by rw [h2]; exact Bool.false_ne_true) (by rw [pow_bits hx hy h16]; exact Bool.false_ne_true) (k _ _ ⟨_, rfl⟩)
theorem div_pylong {x y : Int} (h0 : 0 < y) (h1 : y < 1000000000) : ¬ (Builtin.divisionGoesByPylong x y) = true := by
 unfold Builtin.divisionGoesByPylong
 intro q
 have q := of_decide_eq_true (Bool.and_eq_true_iff.mp q).1
 have h2 : y.natAbs.log2 < 30 := (Nat.log2_lt (by lia)).mpr (by lia)
 have q : (if (y == 0) = true then 0 else y.natAbs.log2 / 30 + 1) > 300 := q
 split at q <;> lia
theorem intOp_tel {op : Operator} {x y : Int} {t u : Tok} : TelT w base κ rest (Rel w) σ (intOp op x y) (wpAny (model prg w) A (binaryOp op (.int x t) (.int y u))) := by
 cases op with
 | Add => exact .rd fun s E Q l D k => wpAny_add_int (k _ _ ⟨_, rfl⟩)
 | Sub => exact .rd fun s E Q l D k => AutoIntOps.sub_0 (k _ _ ⟨_, rfl⟩)
 | Mult => exact .guard fun c => .rd fun s E Q l D k => AutoIntOps.mul_0 (k _ _ ⟨_, rfl⟩) (mulOk (of_decide_eq_true c).1 (of_decide_eq_true c).2)
 | FloorDiv => exact .guard fun c => .rd fun s E Q l D k => AutoIntOps.floordiv_1 (by rw [beq_iff_eq]; exact Int.ne_of_gt (of_decide_eq_true c).1) (div_pylong (of_decide_eq_true c).1 (of_decide_eq_true c).2) (k _ _ ⟨_, by rw [Int.fdiv_eq_ediv_of_nonneg _ (Int.le_of_lt (of_decide_eq_true c).1)]⟩)
 | Mod => exact .guard fun c => .rd fun s E Q l D k => AutoIntOps.mod_1 (by rw [beq_iff_eq]; exact Int.ne_of_gt (of_decide_eq_true c)) (k _ _ ⟨_, by rw [Int.fmod_eq_emod_of_nonneg _ (Int.le_of_lt (of_decide_eq_true c))]⟩)
 | Pow => exact .guard fun c => pow_tel (of_decide_eq_true c).1 (of_decide_eq_true c).2.1 (of_decide_eq_true c).2.2
 | _ => exact .fail
theorem strAdd_tel {x y : Str} {m : Sem Value} (hm : ∀ {Q : Value -> Shared -> Prop} {E s}, (∀ t' tk, Q (.str (x ++ y) t') { s with toks := tk }) -> x.length + y.length <= sizeLine -> wpAny (model prg w) A m Q E s) :
  TelT w base κ rest (Rel w) σ (strAdd x y) (wpAny (model prg w) A m) := .guard fun c => .rd fun s E Q l D k =>
 have c := Bool.and_eq_true_iff.mp c
 hm (fun t' tk => k _ _ ⟨t', rfl, fun h => by rw [h] at c; exact absurd c.2 (by decide)⟩) (sz (of_decide_eq_true c.1))
theorem ne_nil {α β : Type} {x : List α} {y : List β} (h : (!x.isEmpty) = true) (e : y.length = x.length) : y ≠ [] := by
 rintro rfl
 cases x with
 | nil => cases h
 | cons => cases e
theorem addL_tel (ra : Rel w κ a a') (rb : Rel w κ b b') : TelT w base κ rest (Rel w) σ (addL a b) (wpAny (model prg w) A (binaryOp .Add a' b')) := by
 delta addL
 exact .list ra fun x p e hx => .list rb fun y q e' hy => .guard fun c => .vlist fun s E Q l D k => by
  refine hd fun P0 q0 => ?_
  obtain ⟨_, r1, i1⟩ := hx _ _ D
  obtain ⟨_, r2, i2⟩ := hy _ _ D
  subst e e'
  refine q0 ?_
  exact addListS D.st i1 i2 (by rw [r1.len, r2.len]; exact of_decide_eq_true c) fun c h' => k _ c h' _ (r1.app r2)
theorem addV_tel (ra : Rel w κ a a') (rb : Rel w κ b b') : TelT w base κ rest (Rel w) σ (addV a b) (wpAny (model prg w) A (binaryOp .Add a' b')) := by
 cases a with
 | str x =>
  obtain ⟨t, rfl, -⟩ := ra
  exact .str rb fun y u _ e _ => e ▸ strAdd_tel fun h1 h2 => PyProof.Rows.add_str h1 h2
 | tup x =>
  obtain ⟨p, vs', rfl, f, r⟩ := ra
  exact .tup rb fun y q ws' _ e f' r' => .guard fun c => .vtup fun s E Q l D k => by
   rw [Bool.and_eq_true, Bool.and_eq_true] at c
   subst e
   exact addTupS D.st (.inr f) (.inr f') (ne_nil c.1.2 r.len) (ne_nil c.2 r'.len) (by rw [r.len, r'.len]; exact of_decide_eq_true c.1.1) fun c h' => k _ c h' _ (r.app r')
 | _ => exact addL_tel ra rb
theorem mulV_tel (ra : Rel w κ a a') (rb : Rel w κ b b') : TelT w base κ rest (Rel w) σ (mulV a b) (wpAny (model prg w) A (binaryOp .Mult a' b')) := by
 delta mulV
 exact .listV ra fun x p vs' _ e f r => .int rb fun n t _ e' => .guard fun c => .vlist fun s E Q l D k => by
  rw [Bool.and_eq_true, Bool.and_eq_true] at c
  subst e e'
  exact mulListS D.st (.inr f) (by rw [r.len]; exact of_decide_eq_true c.1.1) ⟨of_decide_eq_true c.1.2, of_decide_eq_true c.2⟩ fun c h' => k _ c h' _ (r.rep _)
theorem binop_tel {op : Operator} (ra : Rel w κ a a') (rb : Rel w κ b b') : Tel w A base κ rest (Rel w) (binop op a b) (binaryOp op a' b') := fun σ => by
 delta binop
 cases e : a.int? with
 | some x =>
  obtain rfl := int_inv e
  obtain ⟨t, rfl⟩ := ra
  exact .int rb fun _ _ _ e => e ▸ intOp_tel
 | none =>
  cases op with
  | Add => exact addV_tel ra rb
  | Mult => exact mulV_tel ra rb
  | _ => exact .fail
theorem augop_tel {op : Operator} (ra : Rel w κ a a') (rb : Rel w κ b b') : Tel w A base κ rest (Rel w) (augop op a b) (inplaceOp op a' b') := fun σ => by
 cases op with
 | Add =>
  delta augop
  dsimp only
  cases e : a.int? with
  | some x =>
   obtain rfl := int_inv e
   obtain ⟨t, rfl⟩ := ra
   exact .int rb fun _ _ _ e => e ▸ .rd fun s E Q l D k => AutoIntOps.iadd_0 (k _ _ ⟨_, rfl⟩)
  | none => exact .str ra fun x t _ e _ => .str rb fun y u _ e' _ => e ▸ e' ▸ strAdd_tel fun h1 h2 => PyProof.Rows.iadd_str h1 h2
 | _ => exact .fail
theorem str_eq_iff {x y : Str} : (x.cps.toList == y.cps.toList) = decide (x = y) := by
 obtain ⟨⟨cs⟩⟩ := x
 obtain ⟨⟨ds⟩⟩ := y
 by_cases h : cs = ds
 ·subst h; simp
 ·have : (cs == ds) = false := by simpa using h
  show (cs == ds) = _
  rw [this]; symm; rw [decide_eq_false_iff_not]; intro q; apply h; injection q with q; injection q
theorem str_beq_iff {x y : Str} : (x == y) = decide (x = y) := by
 by_cases h : x = y
 ·subst h; simp
 ·have : (x == y) = false := by simpa using h
  rw [this]; simp [h]
mutual
theorem eqAt_same : ∀ (v : V) (n : Nat) {a b : Value} {A : Around}, v.dep n = true -> Rel w κ v a -> Rel w κ v b -> Ext κ.h s.heap -> A.units + n < 9900 -> EqAt A s a b true
 | .none, _, _, _, _, _, ha, hb, _, _ | .bool _, _, _, _, _, _, ha, hb, _, _ => by cases ha; cases hb; exact EqAt.same _
 | .int i, _, _, _, _, _, ha, hb, _, _ => by obtain ⟨t, rfl⟩ := ha; obtain ⟨u, rfl⟩ := hb; have := (MeetsSeq.EqGives.int i i t u).at; simpa using this _ s
 | .str i, _, _, _, _, _, ha, hb, _, _ => by obtain ⟨t, rfl, _⟩ := ha; obtain ⟨u, rfl, _⟩ := hb; have := (eqGives_str i i t u).at; simpa using this _ s
 | .tup vs, n + 1, _, _, A, hd, ha, hb, k, hu => by
  obtain ⟨x, xs, rfl, fa, ra⟩ := ha; obtain ⟨y, ys, rfl, fb, rb⟩ := hb
  by_cases q : x = y
  ·subst q; exact EqAt.same _
  ·refine EqAt.of_refs q ?_
   have := RcAt.tuples (A := A) (e := fun _ => true) ((fa.mono k).tup) ((fb.mono k).tup) (by rw [show cLine = 9900 from rfl]; lia) fun j h1 h2 => eqAts_same vs n hd ra rb k (A := A.in1) (by show A.units + 1 + n < 9900; lia) j (by simpa using h1) (by simpa using h2)
   have e : (List.range (min xs.toArray.size ys.toArray.size)).all (fun _ => true) = true := by simp
   rw [e] at this
   simpa [ra.len, rb.len] using this
 | .list vs, n + 1, _, _, A, hd, ha, hb, k, hu => by
  obtain ⟨x, xs, rfl, fa, ra⟩ := ha; obtain ⟨y, ys, rfl, fb, rb⟩ := hb
  by_cases q : x = y
  ·subst q; exact EqAt.same _
  ·refine EqAt.of_refs q ?_
   have := RcAt.lists (A := A) (e := fun _ => true) ((fa.mono k).list) ((fb.mono k).list) (by simp [ra.len, rb.len]) (by rw [show cLine = 9900 from rfl]; lia) fun j h1 h2 => eqAts_same vs n hd ra rb k (A := A.in1) (by show A.units + 1 + n < 9900; lia) j (by simpa using h1) (by simpa using h2)
   have e : (List.range xs.toArray.size).all (fun _ => true) = true := by simp
   rw [e] at this
   exact this
 | .tup _, 0, _, _, _, h, _, _, _, _ | .list _, 0, _, _, _, h, _, _, _, _ => by cases h
 | .dict _, _, _, _, _, h, _, _, _, _ | .ref _, _, _, _, _, h, _, _, _, _ | .inst _ _, _, _, _, _, h, _, _, _, _ | .con _, _, _, _, _, h, _, _, _, _ | .strm _, _, _, _, _, h, _, _, _, _
 | .meth _ _ _, _, _, _, _, h, _, _, _, _ | .view _ _, _, _, _, _, h, _, _, _, _ | .rng _ _ _, _, _, _, _, h, _, _, _, _ => by cases h
theorem eqAts_same : ∀ (vs : List V) (n : Nat) {xs ys : List Value} {A : Around}, V.deps vs n = true -> Rels w κ vs xs -> Rels w κ vs ys -> Ext κ.h s.heap -> A.units + n < 9900 ->
  ∀ j (h1 : j < xs.length) (h2 : j < ys.length), EqAt A s xs[j] ys[j] true
 | [], _, _, _, _, _, ha, _, _, _, j, h1, _ => by subst ha; cases h1
 | v :: vs, n, _, _, A, hd, ha, hb, k, hu, j, h1, h2 => by
  obtain ⟨x, xs, rfl, ra, ta⟩ := ha; obtain ⟨y, ys, rfl, rb, tb⟩ := hb
  have hd := Bool.and_eq_true_iff.mp hd
  cases j with
  | zero => exact eqAt_same v n hd.1 ra rb k hu
  | succ j => exact eqAts_same vs n hd.2 ta tb k hu j (by simpa using h1) (by simpa using h2)
end
theorem rc_cmp {k : Bool} {Q : Value -> Shared -> Prop} (h : RcAt A s a' b' k) (hq : Q (.bool k) s) : wpAny (model prg w) A (compareOp .Eq a' b') Q E s := h _ _ _ _ hq
theorem rn_cmp {k : Bool} {Q : Value -> Shared -> Prop} (h : RcNeAt A s a' b' k) (hq : Q (.bool k) s) : wpAny (model prg w) A (compareOp .NotEq a' b') Q E s := h _ _ _ _ hq
mutual
theorem V.beq_eq : ∀ (a b : V), V.beq a b = true -> a = b
 | .none, b, h => (none_inv (Option.isSome_iff_exists.mp h).choose_spec).symm
 | .bool x, b, h => (bool_inv (eq_of_beq h)).symm
 | .int x, b, h => (int_inv (eq_of_beq h)).symm
 | .str x, b, h => (str_inv (eq_of_beq h)).symm
 | .tup x, b, h => by
  change (match b.tup? with | some y => V.beqs x y | Option.none => false) = true at h
  cases q : b.tup? with
  | none => rw [q] at h; cases h
  | some y => rw [q] at h; rw [tup_inv q, V.beqs_eq x y h]
 | .list x, b, h => by
  change (match b.list? with | some y => V.beqs x y | Option.none => false) = true at h
  cases q : b.list? with
  | none => rw [q] at h; cases h
  | some y => rw [q] at h; rw [list_inv q, V.beqs_eq x y h]
 | .dict x, b, h => by
  change (match b.dict? with | some y => V.beqd x y | Option.none => false) = true at h
  cases q : b.dict? with
  | none => rw [q] at h; cases h
  | some y => rw [q] at h; rw [dict_inv q, V.beqd_eq x y h]
 | .ref x, b, h => (ref_inv (eq_of_beq h)).symm
 | .inst c x, b, h => (inst_inv (eq_of_beq h)).symm
 | .con _, _, h => nomatch h
 | .strm _, _, h => nomatch h
 | .meth .., _, h => nomatch h
 | .view .., _, h => nomatch h
 | .rng .., _, h => nomatch h
theorem V.beqs_eq : ∀ (a b : List V), V.beqs a b = true -> a = b
 | [], b, h => (List.isEmpty_iff.mp h).symm
 | x :: a, b, h => by
  cases b with
  | nil => cases h
  | cons y b => have h := Bool.and_eq_true_iff.mp h; rw [V.beq_eq x y h.1, V.beqs_eq a b h.2]
theorem V.beqd_eq : ∀ (a b : List (Str × V)), V.beqd a b = true -> a = b
 | [], b, h => (List.isEmpty_iff.mp h).symm
 | (k, x) :: a, b, h => by
  cases b with
  | nil => cases h
  | cons y b => rw [V.beqd, Bool.and_eq_true, Bool.and_eq_true] at h; rw [eq_of_beq h.1, V.beq_eq x y.2 h.2.1, V.beqd_eq a b h.2.2]
end
noncomputable def Alike (w : World) (A : Around) (s : Shared) (y x : Value) : Prop := ∀ (E : Value -> Shared -> Prop) (Q : Bool -> Shared -> Prop), Q true s -> wpAny (model prg w) A (eqBool y x) Q E s
theorem Alike.same (v : Value) : Alike w A s v v := fun E Q h => EqAt.same v prg w E Q h
theorem Alike.of (h : EqAt A s a' b' true) : Alike w A s a' b' := fun E Q q => h prg w E Q q
theorem Alike.refs {x y : Addr} (hne : x ≠ y) (h : ∀ (E : Value -> Shared -> Prop) (Q : Value -> Shared -> Prop), Q (.bool true) s -> wpAny (model prg w) A (richCompare .Eq (.ref x) (.ref y)) Q E s) : Alike w A s (.ref x) (.ref y) := fun E Q hq => by
 unfold eqBool
 refine wpAny_holding ?_
 refine wpAny_ite_split (fun hab => absurd (by have := eq_of_beq hab; injection this) hne) (fun _ => ?_)
 exact wpAny_bind (h E _ (wpAny_truthy_bool hq))
theorem tup_alike {x y : Addr} {xs ys : List Value} (hx : IsTup s.heap x xs.toArray) (hy : IsTup s.heap y ys.toArray) (hsz : xs.length = ys.length) (hu : A.units < cLine) (he : ∀ p ∈ xs.zip ys, Alike w A.in1 s p.1 p.2)
  {Q : Value -> Shared -> Prop} (hq : Q (.bool true) s) : wpAny (model prg w) A (richCompare .Eq (.ref x) (.ref y)) Q E s := by
 obtain ⟨⟨cls, dd, data, sl⟩, ho, hc, n, hd⟩ := id hx
 obtain ⟨⟨cls2, dd2, data2, sl2⟩, ho2, hc2, n2, hd2⟩ := id hy
 simp only at hc hd hc2 hd2
 subst hc hd hc2 hd2
 refine wpAny_richCompare_same_room (op := .Eq) (T := "tuple") ⟨_, ho, rfl⟩ ⟨_, ho2, rfl⟩ PySem.F.slot_tuple_eq (wpAny_call_entry PySem.F.slot_tuple_eq ⟨_, ho, rfl⟩ PySem.F.entry_tuple_eq ?_ (PySem.F.args_tuple_eq_2 _ _)) hu
 have f2 := AutoSeq1.sub_tuple_tuple
 obtain ⟨hp, g, d, tk, os⟩ := s
 wp_walk using wpAny_loadPart' ho, wpAny_loadPart' ho2, wpAny_forIn_list _ (fun rest b s' => b.1 = none /\ s' = ⟨hp, g, d, tk, os⟩ /\ ∀ p ∈ rest, Alike w A.in1 ⟨hp, g, d, tk, os⟩ p.1 p.2) _
 case turn =>
  rintro ⟨u, z⟩ rest b s' ⟨hb', rfl, hz⟩
  refine wpAny_bind (hz (u, z) (.head _) _ _ ?_)
  wp_walk
  exact ⟨rfl, rfl, fun p hp => hz p (.tail _ hp)⟩
 case fin =>
  rintro ⟨b1, b2⟩ s' ⟨hb', rfl, hz⟩
  simp only at hb'
  subst hb'
  wp_walk
  refine ⟨_, rfl, fun q => (nomatch q), ?_⟩
  have : Builtin.Tuple.tupleCompareSizes .Eq xs.toArray.size ys.toArray.size = .bool true := by simp [Builtin.Tuple.tupleCompareSizes, hsz]
  rw [this]; exact hq
 case h => exact ⟨rfl, rfl, fun p hp => he p (by simpa using hp)⟩
theorem valueAt_idx {kb : List (Str × Value)} (hn : (kb.map (·.1)).Nodup) : ∀ {i : Nat} {k : Str} {v : Value}, kb[i]? = some (k, v) -> valueAt kb k = some v := by
 induction kb with
 | nil => intro i k v h; simp at h
 | cons p r ih =>
  intro i k v h
  obtain ⟨y, u⟩ := p
  rw [List.map_cons, List.nodup_cons] at hn
  cases i with
  | zero => simp at h; obtain ⟨rfl, rfl⟩ := h; simp [valueAt]
  | succ i =>
   simp at h
   have hne : y ≠ k := fun e => hn.1 (List.mem_map.mpr ⟨_, List.mem_of_getElem? h, e.symm⟩)
   have := ih hn.2 h
   unfold valueAt at this ⊢
   rw [List.find?_cons_of_neg (by simpa using hne)]
   exact this
theorem pairs_alike {nm : String} {x y : Addr} {ka kb : List (Str × Value)} {Q : Bool -> Shared -> Prop} (ha : (x == sysModules) = false) (hb : (y == sysModules) = false)
  (da : s.heap.DictOf (strKind prg w) x ka) (db : s.heap.DictOf (strKind prg w) y kb) (hk : ka.map (·.1) = kb.map (·.1)) (he : ∀ p ∈ ka.zip kb, Alike w A s p.1.2 p.2.2) (h : Q true s) :
  wpAny (model prg w) A (Builtin.Dict.samePairs nm x y) Q E s := by
 refine hd fun P0 q0 => ?_
 obtain ⟨oa, es, ep, hoa, _, hda, hka, hpa, _⟩ := da
 obtain ⟨ob, es', ep', hob, _, hdb, hkb, hpb, hnb⟩ := db
 refine q0 ?_
 have hll : ka.length = kb.length := by have := congrArg List.length hk; simpa using this
 have hla : ka.length = es.size := by rw [<- hpa.length]; exact Array.length_toList
 have hlb : kb.length = es'.size := by rw [<- hpb.length]; exact Array.length_toList
 have hfind : ∀ k, findBy (strKind prg w).is es' k = valueAt kb k := fun k => by
  rw [<- hpb.find k]
  clear hlb hpb hkb hdb hob
  obtain ⟨l⟩ := es'
  simp [findBy]
 unfold Builtin.Dict.samePairs Builtin.Dict.showsAll
 rw [if_neg (show ¬ (x == sysModules) = true by rw [ha]; exact Bool.false_ne_true), if_neg (show ¬ (y == sysModules) = true by rw [hb]; exact Bool.false_ne_true)]
 refine wpAny_bind (wpAny_pure (wpAny_bind (wpAny_pure (wpAny_bind (wpAny_dictEntries hoa hda ?_)))))
 dsimp only
 refine wpAny_bind (wpAny_dictEntries hob hdb ?_)
 have hsz : es.size = es'.size := by rw [<- hla, <- hlb, hll]
 rw [if_neg (by rw [hsz]; simp)]
 refine wpAny_bind (wpAny_dictEpoch hoa hda (wpAny_bind ?_))
 rw [Std.Legacy.Range.forIn_eq_forIn_range']
 simp only [Std.Legacy.Range.size, Nat.sub_zero, Nat.add_sub_cancel, Nat.div_one]
 refine wpAny_forIn_list _ (fun rest q s' => s' = s /\ q = (none, ()) /\ ∀ i ∈ rest, i < es.size) _ ?_ ?_ _ _ ⟨rfl, rfl, fun i hi => by simpa [List.mem_range'_1] using hi⟩
 ·rintro i rest q s' ⟨rfl, rfl, hr⟩
  have hlt : i < es.size := hr i (.head _)
  refine wpAny_bind (wpAny_dictEntries hoa hda ?_)
  rw [Array.getElem?_eq_getElem hlt]
  have hlta : i < ka.length := by rw [hla]; exact hlt
  have hltb : i < kb.length := by rw [<- hll]; exact hlta
  refine hd fun P0 q0 => ?_
  obtain ⟨k, v, hkv⟩ : ∃ k v, ka[i] = (k, v) := ⟨_, _, rfl⟩
  obtain ⟨k2, u, hku⟩ : ∃ k v, kb[i] = (k, v) := ⟨_, _, rfl⟩
  have hkk : k = k2 := by
   have h1 := congrArg (fun l => l[i]?) hk
   simp only [List.getElem?_map, List.getElem?_eq_getElem hlta, List.getElem?_eq_getElem hltb, hkv, hku, Option.map_some, Option.some.injEq] at h1
   exact h1
  subst hkk
  obtain ⟨hkey, hval⟩ := hpa.get? (i := i) (e := es[i]) (k := k) (v := v) (by rw [Array.getElem?_toList]; exact Array.getElem?_eq_getElem hlt) (by rw [List.getElem?_eq_getElem hlta, hkv])
  obtain ⟨k', hk', hh⟩ := hka es[i] (Array.getElem_mem hlt)
  refine q0 ?_
  have ekk : k' = k := (strKind prg w).inj _ _ _ hk' hkey
  rw [ekk] at hh
  have hu : valueAt kb k = some u := valueAt_idx hnb (by rw [List.getElem?_eq_getElem hltb, hku])
  have hal : Alike w A s' v u := by
   have hz : (ka.zip kb)[i]? = some ((k, v), (k, u)) := by rw [List.getElem?_zip_eq_some, List.getElem?_eq_getElem hlta, List.getElem?_eq_getElem hltb, hkv, hku]; exact ⟨rfl, rfl⟩
   exact he _ (List.mem_of_getElem? hz)
  show wpAny _ _ (holding [es[i].key, es[i].val] _ >>= _) _ _ _
  rw [hh]
  refine wpAny_bind (wpAny_holding (wpAny_bind (wpAny_dictFind_of hkey hob hdb hkb ?_)))
  cases hj : es'.findIdx? fun e => (strKind prg w).is k e.key with
  | none =>
   have hn : valueAt kb k = none := by rw [<- hfind k, findBy_of_findIdx?, hj]
   rw [hu] at hn; cases hn
  | some j =>
   refine hd fun P0 q0 => ?_
   obtain ⟨hjlt, _, _⟩ := Array.findIdx?_eq_some_iff_getElem.mp hj
   refine q0 ?_
   have hv' : valueAt kb k = some es'[j].val := by
    rw [<- hfind k, findBy_of_findIdx?, hj]
    simp [Array.getElem?_eq_getElem hjlt]
   have ey : u = es'[j].val := by rw [hu] at hv'; exact Option.some.inj hv'
   refine wpAny_bind (wpAny_dictEntries hob hdb ?_)
   rw [Array.getElem?_eq_getElem hjlt]
   rw [ey, <- hval] at hal
   refine wpAny_holding (hal _ _ ?_)
   show wpAny _ _ (if (!true) = true then _ else _) _ _ _
   rw [if_neg (by decide)]
   refine wpAny_bind (wpAny_dictEpoch hoa hda ?_)
   rw [if_neg (by simp)]
   exact wpAny_pure ⟨rfl, rfl, fun i hi => hr i (.tail _ hi)⟩
 ·rintro q s' ⟨rfl, rfl, -⟩
  exact wpAny_pure h
theorem dict_alike {x y : Addr} {ka kb : List (Str × Value)} {Q : Value -> Shared -> Prop} (ha : (x == sysModules) = false) (hb : (y == sysModules) = false)
  (da : s.heap.DictOf (strKind prg w) x ka) (db : s.heap.DictOf (strKind prg w) y kb) (hu : A.units < cLine) (hk : ka.map (·.1) = kb.map (·.1)) (he : ∀ p ∈ ka.zip kb, Alike w A.in1 s p.1.2 p.2.2) (h : Q (.bool true) s) :
  wpAny (model prg w) A (richCompare .Eq (.ref x) (.ref y)) Q E s := by
 refine wpAny_richCompare_same_room (op := .Eq) da.typeIs db.typeIs PySem.F.slot_dict_eq (wpAny_call_entry PySem.F.slot_dict_eq da.typeIs PySem.F.entry_dict_eq ?_ (PySem.F.args_dict_eq_2 _ _)) hu
 show wpAny _ _ (Builtin.Dict.dictSlotArgs "__eq__" ⟨[.ref x, .ref y], []⟩ >>= _) _ _ s
 refine wpAny_bind ?_
 unfold Builtin.Dict.dictSlotArgs
 refine wpAny_bind (wpAny_notOrdered_dict da.typeIs (wpAny_pure ?_))
 refine wpAny_bind (wpAny_isInstance (T := "dict") db.typeIs PySem.F.sub_dict_dict ?_)
 simp only [Bool.not_true, Bool.false_eq_true, if_false]
 refine wpAny_bind (wpAny_pure (wpAny_bind (wpAny_pure (wpAny_bind (pairs_alike ha hb da db hk he (wpAny_pure ⟨_, rfl, fun x => (nomatch x), ?_⟩))))))
 simpa using h
theorem dict_alike_ne {x y : Addr} {ka kb : List (Str × Value)} {Q : Value -> Shared -> Prop} (ha : (x == sysModules) = false) (hb : (y == sysModules) = false)
  (da : s.heap.DictOf (strKind prg w) x ka) (db : s.heap.DictOf (strKind prg w) y kb) (hu : A.units < cLine) (hk : ka.map (·.1) = kb.map (·.1)) (he : ∀ p ∈ ka.zip kb, Alike w A.in1 s p.1.2 p.2.2) (h : Q (.bool false) s) :
  wpAny (model prg w) A (richCompare .NotEq (.ref x) (.ref y)) Q E s := by
 refine wpAny_richCompare_same_room (op := .NotEq) da.typeIs db.typeIs PySem.F.slot_dict_ne (wpAny_call_entry PySem.F.slot_dict_ne da.typeIs PySem.F.entry_dict_ne ?_ (PySem.F.args_dict_ne_2 _ _)) hu
 show wpAny _ _ (Builtin.Dict.dictSlotArgs "__ne__" ⟨[.ref x, .ref y], []⟩ >>= _) _ _ s
 refine wpAny_bind ?_
 unfold Builtin.Dict.dictSlotArgs
 refine wpAny_bind (wpAny_notOrdered_dict da.typeIs (wpAny_pure ?_))
 refine wpAny_bind (wpAny_isInstance (T := "dict") db.typeIs PySem.F.sub_dict_dict ?_)
 simp only [Bool.not_true, Bool.false_eq_true, if_false]
 refine wpAny_bind (wpAny_pure (wpAny_bind (wpAny_pure (wpAny_bind (pairs_alike ha hb da db hk he (wpAny_pure ⟨_, rfl, fun x => (nomatch x), ?_⟩))))))
 simpa using h
theorem Reld.keyz : ∀ {kvs : List (Str × V)} {xs : List (Str × Value)}, Reld w κ kvs xs -> xs.map (·.1) = kvs.map (·.1)
 | [], _, h => by subst h; rfl
 | (_, _) :: _, _, ⟨_, _, e, _, t⟩ => by subst e; simp [Reld.keyz t]
theorem sysMod {x : Addr} (h : x ≠ 1) : (x == sysModules) = false := by simpa [sysModules] using h
mutual
theorem alike_same : ∀ (v : V) (n : Nat) {a b : Value} {A : Around}, v.depT n = true -> Rel w κ v a -> Rel w κ v b -> Ext κ.h s.heap -> A.units + n < 9900 -> Alike w A s a b
 | .none, _, _, _, _, _, ha, hb, _, _ | .bool _, _, _, _, _, _, ha, hb, _, _ => by cases ha; cases hb; exact Alike.same _
 | .int i, _, _, _, A, _, ha, hb, _, _ => by obtain ⟨t, rfl⟩ := ha; obtain ⟨u, rfl⟩ := hb; have := (MeetsSeq.EqGives.int i i t u).at A s; exact .of (by simpa using this)
 | .str i, _, _, _, A, _, ha, hb, _, _ => by obtain ⟨t, rfl, _⟩ := ha; obtain ⟨u, rfl, _⟩ := hb; have := (eqGives_str i i t u).at A s; exact .of (by simpa using this)
 | .tup vs, n + 1, _, _, A, hd, ha, hb, k, hu => by
  obtain ⟨x, xs, rfl, fa, ra⟩ := ha; obtain ⟨y, ys, rfl, fb, rb⟩ := hb
  by_cases q : x = y
  ·subst q; exact Alike.same _
  ·exact Alike.refs q fun E Q hq => tup_alike (fa.mono k).tup (fb.mono k).tup (by rw [ra.len, rb.len]) (by rw [show cLine = 9900 from rfl]; lia) (alikes_same vs n hd ra rb k (A := A.in1) (by show A.units + 1 + n < 9900; lia)) hq
 | .dict kvs, n + 1, _, _, A, hd, ha, hb, k, hu => by
  obtain ⟨x, xs, rfl, fa, ra, na⟩ := ha; obtain ⟨y, ys, rfl, fb, rb, nb⟩ := hb
  by_cases q : x = y
  ·subst q; exact Alike.same _
  ·exact Alike.refs q fun E Q hq => dict_alike (sysMod na) (sysMod nb) (fa.mono k).dict (fb.mono k).dict (by rw [show cLine = 9900 from rfl]; lia) (by rw [ra.keyz, rb.keyz]) (aliked_same kvs n hd ra rb k (A := A.in1) (by show A.units + 1 + n < 9900; lia)) hq
 | .tup _, 0, _, _, _, h, _, _, _, _ | .dict _, 0, _, _, _, h, _, _, _, _ => by cases h
 | .list _, _, _, _, _, h, _, _, _, _ | .ref _, _, _, _, _, h, _, _, _, _ | .inst _ _, _, _, _, _, h, _, _, _, _ | .con _, _, _, _, _, h, _, _, _, _ | .strm _, _, _, _, _, h, _, _, _, _
 | .meth _ _ _, _, _, _, _, h, _, _, _, _ | .view _ _, _, _, _, _, h, _, _, _, _ | .rng _ _ _, _, _, _, _, h, _, _, _, _ => by cases h
theorem alikes_same : ∀ (vs : List V) (n : Nat) {xs ys : List Value} {A : Around}, V.depTs vs n = true -> Rels w κ vs xs -> Rels w κ vs ys -> Ext κ.h s.heap -> A.units + n < 9900 -> ∀ p ∈ xs.zip ys, Alike w A s p.1 p.2
 | [], _, _, _, _, _, ha, _, _, _, p, hp => by subst ha; cases hp
 | v :: vs, n, _, _, A, hd, ha, hb, k, hu, p, hp => by
  obtain ⟨x, xs, rfl, ra, ta⟩ := ha; obtain ⟨y, ys, rfl, rb, tb⟩ := hb
  have hd := Bool.and_eq_true_iff.mp hd
  rcases List.mem_cons.mp hp with rfl | hp
  ·exact alike_same v n hd.1 ra rb k hu
  ·exact alikes_same vs n hd.2 ta tb k hu p hp
theorem aliked_same : ∀ (vs : List (Str × V)) (n : Nat) {xs ys : List (Str × Value)} {A : Around}, V.depTd vs n = true -> Reld w κ vs xs -> Reld w κ vs ys -> Ext κ.h s.heap -> A.units + n < 9900 -> ∀ p ∈ xs.zip ys, Alike w A s p.1.2 p.2.2
 | [], _, _, _, _, _, ha, _, _, _, p, hp => by subst ha; cases hp
 | (_, v) :: vs, n, _, _, A, hd, ha, hb, k, hu, p, hp => by
  obtain ⟨x, xs, rfl, ra, ta⟩ := ha; obtain ⟨y, ys, rfl, rb, tb⟩ := hb
  have hd := Bool.and_eq_true_iff.mp hd
  rcases List.mem_cons.mp hp with rfl | hp
  ·exact alike_same v n hd.1 ra rb k hu
  ·exact aliked_same vs n hd.2 ta tb k hu p hp
end
theorem int_beq_iff {x y : Int} : (x == y) = decide (x = y) := by
 by_cases h : x = y <;> simp [h]
theorem bool_beq_iff {x y : Bool} : (x == y) = decide (x = y) := by
 cases x <;> cases y <;> rfl
theorem Reld.any {x : Str} : ∀ {kvs : List (Str × V)} {kvs' : List (Str × Value)}, Reld w κ kvs kvs' -> (valueAt kvs' x).isSome = kvs.any (fun kv => decide (kv.1 = x))
 | [], _, h => by subst h; rfl
 | (y, _) :: r, _, ⟨v', r', e, _, t⟩ => by
  subst e
  rw [List.any_cons, <- Reld.any t]
  by_cases q : y = x
  ·subst q; simp [valueAt]
  ·simp [valueAt, q]
noncomputable def EqOk (w : World) (A : Around) (s : Shared) (k : Bool) (a' b' : Value) : Prop := ∀ (Q : Value -> Shared -> Prop) E, (Q (.bool k) s -> wpAny (model prg w) A (compareOp .Eq a' b') Q E s) /\ (Q (.bool (!k)) s -> wpAny (model prg w) A (compareOp .NotEq a' b') Q E s)
theorem EqOk.rc {k : Bool} (h1 : RcAt A s a' b' k) (h2 : RcNeAt A s a' b' (!k)) : EqOk w A s k a' b' := fun _ _ => ⟨rc_cmp h1, rn_cmp h2⟩
theorem all_true {α : Type} (l : List α) : l.all (fun _ => true) = true := by
 induction l with
 | nil => rfl
 | cons _ _ ih => exact ih
theorem room9900 {A : Around} (hu : A.units + 30 < 9900) : A.units < cLine := Nat.lt_of_le_of_lt (Nat.le_add_right _ 30) hu
theorem room1 {A : Around} (hu : A.units + 30 < 9900) : A.in1.units + 20 < 9900 := by show A.units + 1 + 20 < 9900; lia
theorem lists_eq {p q : Addr} {xs ys : List Value} (hu : A.units + 30 < 9900) (la : s.heap.IsList p xs.toArray) (lb : s.heap.IsList q ys.toArray) (hl : xs.length = ys.length) (he : ∀ j (h1 : j < xs.length) (h2 : j < ys.length), EqAt A.in1 s xs[j] ys[j] true) : EqOk w A s true (.ref p) (.ref q) := by
 have r1 := RcAt.lists (A := A) (e := fun _ => true) la lb hl (room9900 hu) he
 have r2 := RcNeAt.lists (A := A) (e := fun _ => true) la lb hl (room9900 hu) he
 rw [all_true] at r1 r2
 exact .rc r1 r2
theorem veqL_tel {p q : Addr} {x y : List V} {xs ys : List Value} {k : Bool} (hu : A.units + 30 < 9900) (hx : Ext κ.h s.heap) (fa : Has w κ.h p (.list xs)) (ra : Rels w κ x xs) (fb : Has w κ.h q (.list ys)) (rb : Rels w κ y ys) (e : veqL x y = some k) : EqOk w A s k (.ref p) (.ref q) := by
 have la := (fa.mono hx).list
 have lb := (fb.mono hx).list
 have h1 := ra.len
 have h2 := rb.len
 unfold veqL at e
 split at e
 ·rename_i hc
  cases e
  by_cases q : xs.length = ys.length
  ·have h0 : x = [] /\ y = [] := by
    cases x with
    | nil => cases y with
     | nil => exact ⟨rfl, rfl⟩
     | cons => rw [h1, h2] at q; cases q
    | cons => cases y with
     | nil => rw [h1, h2] at q; cases q
     | cons => cases hc
   obtain ⟨rfl, rfl⟩ := h0
   exact lists_eq hu la lb q fun j hj => absurd hj (by rw [h1]; exact Nat.not_lt_zero _)
  ·have hk : (x.isEmpty && y.isEmpty) = false := by
    cases x with
    | cons => rfl
    | nil => cases y with
     | cons => rfl
     | nil => exact absurd (h1.trans h2.symm) q
   rw [hk]
   exact .rc (RcAt.lists_lengths la lb (bne_iff_ne.mpr q) (room9900 hu)) (RcNeAt.lists_lengths la lb (bne_iff_ne.mpr q) (room9900 hu))
 ·split at e
  ·rename_i hc
   cases e
   rw [Bool.and_eq_true] at hc
   obtain rfl := V.beqs_eq _ _ hc.1
   exact lists_eq hu la lb (h1.trans h2.symm) (eqAts_same x 20 hc.2 ra rb hx (room1 hu))
  ·cases e
theorem veq_tel {k : Bool} (hx : Ext κ.h s.heap) (hu : A.units + 30 < 9900) (ra : Rel w κ a a') (rb : Rel w κ b b') (e : veq a b = some k) : EqOk w A s k a' b' := by
 cases a with
 | int x =>
  obtain ⟨y, e1, rfl⟩ := Option.map_eq_some_iff.mp e
  rw [int_inv e1] at rb
  obtain ⟨t, rfl⟩ := ra; obtain ⟨u, rfl⟩ := rb
  exact fun Q E => ⟨fun h => P.eq_int (by rw [show (x == y) = decide (x = y) from int_beq_iff]; exact h), fun h => P.ne_int (by rw [bne, int_beq_iff]; exact h)⟩
 | str x =>
  obtain ⟨y, e1, rfl⟩ := Option.map_eq_some_iff.mp e
  rw [str_inv e1] at rb
  obtain ⟨t, rfl, -⟩ := ra; obtain ⟨u, rfl, -⟩ := rb
  exact fun Q E => ⟨fun h => P.eq_str (by rw [str_eq_iff]; exact h), fun h => P.ne_str (by rw [bne, str_eq_iff]; exact h)⟩
 | bool x =>
  obtain ⟨y, e1, rfl⟩ := Option.map_eq_some_iff.mp e
  rw [bool_inv e1] at rb
  cases ra; cases rb
  rw [<- bool_beq_iff]
  exact .rc (RcAt.bool_bool x y) (RcNeAt.bool_bool x y)
 | list x =>
  obtain ⟨y, e1, e2⟩ := Option.bind_eq_some_iff.mp e
  rw [list_inv e1] at rb
  obtain ⟨p, xs, rfl, fa, ra⟩ := ra
  obtain ⟨q, ys, rfl, fb, rb⟩ := rb
  exact veqL_tel hu hx fa ra fb rb e2
 | dict x =>
  obtain ⟨y, e1, e2⟩ := Option.bind_eq_some_iff.mp e
  rw [dict_inv e1] at rb
  split at e2
  ·rename_i hc
   cases e2
   rw [Bool.and_eq_true] at hc
   obtain rfl := V.beqd_eq _ _ hc.1
   obtain ⟨p, xs, rfl, fa, ra, na⟩ := ra
   obtain ⟨q, ys, rfl, fb, rb, nb⟩ := rb
   have he := aliked_same x 20 hc.2 ra rb hx (room1 hu)
   have hk : xs.map (·.1) = ys.map (·.1) := by rw [ra.keyz, rb.keyz]
   exact fun Q E => ⟨dict_alike (sysMod na) (sysMod nb) (fa.mono hx).dict (fb.mono hx).dict (room9900 hu) hk he, dict_alike_ne (sysMod na) (sysMod nb) (fa.mono hx).dict (fb.mono hx).dict (room9900 hu) hk he⟩
  ·cases e2
 | _ => cases e
noncomputable def InOk (w : World) (A : Around) (s : Shared) (k : Bool) (a' b' : Value) : Prop := ∀ (Q : Value -> Shared -> Prop) E, ((∀ tk, Q (.bool k) { s with toks := tk }) -> wpAny (model prg w) A (compareOp .In a' b') Q E s) /\ ((∀ tk, Q (.bool (!k)) { s with toks := tk }) -> wpAny (model prg w) A (compareOp .NotIn a' b') Q E s)
noncomputable def isS (x : Str) : Value -> Bool
 | .str z _ => z == x
 | _ => false
theorem strIs_str {x : Str} (h : isStrV v = true) (r : Rel w κ v v') : (∀ A s t, EqAt A s v' (.str x t) (isS x v')) /\ isS x v' = strIs x v := by
 cases v with
 | str z =>
  obtain ⟨u, rfl, -⟩ := r
  exact ⟨fun A s t => (eqGives_str z x u t).at A s, str_beq_iff⟩
 | _ => cases h
theorem vin_any {x : Str} {xs : List Value} (hc : vs.all isStrV = true) (r : Rels w κ vs xs) : xs.any (isS x) = vs.any (strIs x) := by
 induction vs generalizing xs with
 | nil => cases r; rfl
 | cons v vs ih =>
  obtain ⟨y, ys, rfl, rv, rt⟩ := r
  rw [List.all_cons, Bool.and_eq_true] at hc
  rw [List.any_cons, List.any_cons, ih hc.2 rt, (strIs_str hc.1 rv).2]
theorem vin_tel {x : Str} {t : Tok} {p : Addr} {xs : List Value} {k : Bool} (r : Rels w κ vs xs) (i : s.heap.IsList p xs.toArray) (e : vin x vs = some k) : InOk w A s k (.str x t) (.ref p) := by
 unfold vin at e
 split at e
 ·rename_i hc
  cases e
  have he : ∀ y, y ∈ xs.toArray -> EqAt A.in1 s y (.str x t) (isS x y) := fun y hy => by
   obtain ⟨v, hv, rv⟩ := r.mem (List.mem_toArray.mp hy)
   exact (strIs_str (List.all_eq_true.mp hc v hv) rv).1 _ _ _
  rw [<- vin_any hc r, <- List.any_toArray]
  exact fun Q E => ⟨fun h => in_listAt _ i he (h s.toks), fun h => notIn_listAt _ i he (h s.toks)⟩
 ·cases e
theorem din_tel {x : Str} {t : Tok} {p : Addr} {kvs : List (Str × V)} {kvs' : List (Str × Value)} (r : Reld w κ kvs kvs') (i : Has w s.heap p (.dict kvs')) (hn : p ≠ 1) : InOk w A s (kvs.any fun kv => decide (kv.1 = x)) (.str x t) (.ref p) := fun Q E =>
 ⟨fun h => wpAny_in_of (strKind_is prg w _ t) (sysMod hn) i.dict.mapOf (by rw [r.any]; exact h _), fun h => wpAny_notIn_of (strKind_is prg w _ t) (sysMod hn) i.dict.mapOf (by rw [r.any]; exact h _)⟩
theorem cin_tel {x y : Str} {t u : Tok} (hc : x.length = 1) : InOk w A s (decide (x ∈ chars y)) (.str x t) (.str y u) := by
 obtain ⟨⟨cs⟩⟩ := x
 match cs, hc with
 | [c], _ =>
  have hk : (!(Builtin.Str.occurrences y ⟨#[c]⟩ 0 y.length 1).isEmpty) = decide ((⟨#[c]⟩ : Str) ∈ chars y) := by
   rw [StrLaws.found_one]
   unfold chars
   congr 1
   simp
  exact fun Q E => ⟨fun h => P.in_str (by rw [hk]; exact h s.toks), fun h => P.notIn_str (by rw [hk]; exact h s.toks)⟩
theorem isIn_tel {m : Sem Value} (ra : Rel w κ a a') (rb : Rel w κ b b') (f : Bool -> Bool)
  (hm : ∀ {s : Shared} {k Q E}, InOk w A s k a' b' -> (∀ tk, Q (.bool (f k)) { s with toks := tk }) -> wpAny (model prg w) A m Q E s) : TelT w base κ rest (fun _ k v' => v' = .bool k) σ (isIn f a b) (wpAny (model prg w) A m) := by
 delta isIn
 refine .str ra fun x t _ e _ => ?_
 subst e
 have key : ∀ k, (∀ (s : Shared) l, Led w κ s.heap σ rest l -> InOk w A s k (.str x t) b') -> TelT w base κ rest (fun _ k v' => v' = .bool k) σ (pure (f k)) (wpAny (model prg w) A m) := fun k h => .rd fun s E Q l D kk => hm (h s l D) fun tk => kk _ tk rfl
 cases b with
 | str y => exact .guard fun c => key _ fun s l D => by obtain ⟨u, rfl, -⟩ := rb; exact cin_tel (of_decide_eq_true c)
 | dict kvs =>
  refine hd fun P0 q0 => ?_
  obtain ⟨p, xs, rfl, i, r, hn⟩ := rb
  refine q0 ?_
  exact key _ fun s l D => din_tel r (D.st.frz i) hn
 | list vs =>
  refine hd fun P0 q0 => ?_
  obtain ⟨p, xs, rfl, i, r⟩ := rb
  refine q0 ?_
  exact .lift fun k e => key _ fun s l D => vin_tel r (D.st.frz i).list e
 | ref j =>
  refine hd fun P0 q0 => ?_
  obtain ⟨p, hk, rfl⟩ := rb
  refine q0 ?_
  refine .look fun o ho => ?_
  cases o with
  | dict kvs => exact key _ fun s l D => by obtain ⟨xs, r, i⟩ := ent_dict hk ho D; exact din_tel r (D.st.has i) (D.st.pos _ i)
  | list vs => exact .lift fun k e => key _ fun s l D => by obtain ⟨xs, r, i⟩ := ent_list hk ho D; exact vin_tel r (D.st.has i).list e
  | _ => exact .fail
 | _ => exact .fail
theorem cmpI_tel {op : CmpOp} (ra : Rel w κ a a') (rb : Rel w κ b b') (hop : ∀ {s : Shared} {Q : Value -> Shared -> Prop} {E x y t u}, Q (.bool (cmpInt op x y)) s -> wpAny (model prg w) A (compareOp op (.int x t) (.int y u)) Q E s) :
  TelT w base κ rest (fun _ k v' => v' = .bool k) σ (cmpI op a b) (wpAny (model prg w) A (compareOp op a' b')) := by
 delta cmpI
 exact .int ra fun x t _ e => .int rb fun y u _ e' => e ▸ e' ▸ .rd fun s E Q l D k => hop (k _ s.toks rfl)
theorem bool_eqv {x y : Bool} : ((Value.bool x) == (Value.bool y)) = decide (x = y) := by cases x <;> cases y <;> rfl
theorem cmp_tel {op : CmpOp} (hu : A.units + 30 < 9900) (ra : Rel w κ a a') (rb : Rel w κ b b') : Tel w A base κ rest (fun _ k v' => v' = .bool k) (cmp op a b) (compareOp op a' b') := fun σ => by
 cases op with
 | Lt => exact cmpI_tel ra rb P.lt_int
 | LtE => exact cmpI_tel ra rb P.le_int
 | Gt => exact cmpI_tel ra rb P.gt_int
 | GtE => exact cmpI_tel ra rb P.ge_int
 | Is => exact .bool ra fun x _ e => .bool rb fun y _ e' => e ▸ e' ▸ .rd fun s E Q l D k => wpAny_bind (wpAny_of_eq (isSame_plain rfl) (wpAny_pure (k _ s.toks (congrArg _ bool_eqv))))
 | IsNot => exact .bool ra fun x _ e => .bool rb fun y _ e' => e ▸ e' ▸ .rd fun s E Q l D k => wpAny_bind (wpAny_of_eq (isSame_plain rfl) (wpAny_pure (k _ s.toks (congrArg (fun z => Value.bool (!z)) bool_eqv))))
 | Eq => exact .lift1 fun k e => .rd fun s E Q l D kk => (veq_tel D.st.keep hu ra rb e Q E).1 (kk _ s.toks rfl)
 | NotEq => exact .lift fun k e => .rd fun s E Q l D kk => (veq_tel D.st.keep hu ra rb e Q E).2 (kk _ s.toks rfl)
 | In => exact isIn_tel ra rb id fun h => (h _ _).1
 | NotIn => exact isIn_tel ra rb not fun h => (h _ _).2
theorem empty_len {α β : Type} {x : List α} {y : List β} (h : y.length = x.length) : y.isEmpty = x.isEmpty := by
 cases x <;> cases y <;> first | rfl | cases h
theorem truth_tel (ra : Rel w κ a a') : Tel w A base κ rest (fun _ k v' => v' = k) (truth a) (truthy a') := fun σ => by
 have key : TelT w base κ rest (fun _ k v' => v' = k) σ (truthL a) (wpAny (model prg w) A (truthy a')) := by
  delta truthL
  exact .list ra fun vs p e h => e ▸ .rd fun s E Q l D k => by
   obtain ⟨xs, r, i⟩ := h _ _ D
   exact truthyListS D.st i fun tk => k _ tk (by rw [empty_len r.len])
 cases a with
 | bool b => cases ra; exact .rd fun s E Q l D k => wpAny_truthy_bool (k _ s.toks rfl)
 | _ => exact key
end
end Mine
end
section
open PySem PySem.W PyProof.Rows PySem.Calls PySem.SeqAt
namespace Mine
section
variable {w : World} {A : Around} {base : Nat} {κ : Kw} {rest l : List (Addr × Sh)} {σ σ' : List O} {h : Heap} {v a b : V} {v' a' b' : Value} {vs : List V} {s : Shared} {E : Value -> Shared -> Prop}
theorem idx_seq {n k : Nat} {i : Int} (e : idx n i = some k) : seqIndex? i n = some k /\ k < n := by
 unfold idx at e
 unfold seqIndex?
 by_cases h : 0 <= i
 ·rw [if_pos h] at e
  by_cases h2 : i < (n : Int)
  ·rw [if_pos h2] at e
   cases e
   have h3 : ¬ i < 0 := by lia
   simp only [h3, if_false]
   rw [if_pos (by simp; lia)]
   exact ⟨rfl, by lia⟩
  ·rw [if_neg h2] at e; cases e
 ·rw [if_neg h] at e
  by_cases h2 : 0 <= i + (n : Int)
  ·rw [if_pos h2] at e
   cases e
   have h3 : i < 0 := by lia
   simp only [h3, if_true]
   rw [if_pos (by simp; lia)]
   exact ⟨rfl, by lia⟩
  ·rw [if_neg h2] at e; cases e
theorem idx_bound {n k : Nat} {i : Int} (e : idx n i = some k) : -(n : Int) <= i /\ i < n := by
 unfold idx at e
 split at e
 ·split at e
  ·lia
  ·cases e
 ·split at e
  ·lia
  ·cases e
theorem idx_k {n k : Nat} {i : Int} (e : idx n i = some k) : (0 <= i /\ i = (k : Int)) ∨ (i < 0 /\ i + n = (k : Int)) := by
 unfold idx at e
 split at e
 ·split at e
  ·cases e; left; lia
  ·cases e
 ·split at e
  ·cases e; right; lia
  ·cases e
theorem getListS' {p : Addr} {xs : List Value} {i : Int} {u : Tok} {k : Nat} {y : Value} {h₀ : Heap} {Q : Value -> Shared -> Prop} (S : St w h₀ s.heap l) (ra : In2 w h₀ l p (.list xs)) (hk : idx xs.length i = some k) (hz : xs.length <= 100000) (hy : xs[k]? = some y) (h : Q y s) :
  wpAny (model prg w) A (PySem.getItem (.ref p) (.int i u)) Q E s := by
 have hb := idx_bound hk
 rcases idx_k hk with ⟨h0, e⟩ | ⟨h0, e⟩
 ·exact wpAny_getItem_list (ra.has S).list h0 (by lia) (by rw [e]; simpa using hy) h
 ·exact wpAny_getItem_list_neg (ra.has S).list h0 (by simpa using hb.1) (by lia) (by simp only [List.size_toArray]; rw [e]; simpa using hy) h
theorem getTupS' {p : Addr} {xs : List Value} {i : Int} {u : Tok} {k : Nat} {y : Value} {h₀ : Heap} {Q : Value -> Shared -> Prop} (S : St w h₀ s.heap l) (ra : In2 w h₀ l p (.tup xs)) (hk : idx xs.length i = some k) (hz : xs.length <= 100000) (hy : xs[k]? = some y) (h : Q y s) :
  wpAny (model prg w) A (PySem.getItem (.ref p) (.int i u)) Q E s := by
 have hb := idx_bound hk
 exact getItem_tuple (ra.has S).tup (by lia) (by lia) (by rw [List.size_toArray]; exact (idx_seq hk).1) (by simpa using hy) h
theorem valueAt_cons {x y : Str} {v : Value} {r : List (Str × Value)} : valueAt ((y, v) :: r) x = if y = x then some v else valueAt r x := by
 unfold valueAt
 by_cases q : y = x
 ·rw [if_pos q, List.find?_cons_of_pos (by exact decide_eq_true q)]; rfl
 ·rw [if_neg q, List.find?_cons_of_neg (by simpa using q)]
theorem lookup_cons' {α : Type} {x y : Str} {v : α} {r : List (Str × α)} : ((y, v) :: r).lookup x = if y = x then some v else r.lookup x := by
 rw [List.lookup_cons]
 by_cases q : y = x
 ·subst q; rw [if_pos rfl, beq_self_eq_true]
 ·rw [if_neg q, beq_false_of_ne (Ne.symm q)]
theorem Reld.val {x : Str} {kvs : List (Str × V)} {kvs' : List (Str × Value)} (h : Reld w κ kvs kvs') : match kvs.lookup x with | some v => ∃ v', valueAt kvs' x = some v' /\ Rel w κ v v' | none => valueAt kvs' x = none := by
 induction kvs generalizing kvs' with
 | nil => cases h; rfl
 | cons p r ih =>
  obtain ⟨y, u⟩ := p
  obtain ⟨v', r', rfl, rv, t⟩ := h
  rw [lookup_cons', valueAt_cons]
  by_cases q : y = x
  ·rw [if_pos q, if_pos q]; exact ⟨v', rfl, rv⟩
  ·rw [if_neg q, if_neg q]; exact ih t
theorem Reld.get {x : Str} {v : V} {kvs : List (Str × V)} {kvs' : List (Str × Value)} (h : Reld w κ kvs kvs') (e : kvs.lookup x = some v) : ∃ v', valueAt kvs' x = some v' /\ Rel w κ v v' := by
 have := h.val (x := x)
 rw [e] at this; exact this
theorem Reld.none {x : Str} {kvs : List (Str × V)} {kvs' : List (Str × Value)} (h : Reld w κ kvs kvs') (e : kvs.lookup x = none) : valueAt kvs' x = none := by
 have := h.val (x := x)
 rw [e] at this; exact this
theorem Reld.app : ∀ {vs ws : List (Str × V)} {vs' ws' : List (Str × Value)}, Reld w κ vs vs' -> Reld w κ ws ws' -> Reld w κ (vs ++ ws) (vs' ++ ws')
 | [], _, _, _, h, k => by subst h; exact k
 | (_, _) :: _, _, _, _, ⟨_, _, e, r, t⟩, k => by subst e; exact ⟨_, _, rfl, r, Reld.app t k⟩
theorem Reld.put {x : Str} {v : V} {v' : Value} (hv : Rel w κ v v') : ∀ {kvs : List (Str × V)} {kvs' : List (Str × Value)}, Reld w κ kvs kvs' ->
  Reld w κ (kvs.map (fun kv => if kv.1 = x then (kv.1, v) else kv)) (kvs'.map (fun kv => if kv.1 = x then (kv.1, v') else kv))
 | [], _, h => by subst h; rfl
 | (y, u) :: r, _, ⟨u', r', e, rv, t⟩ => by
  subst e
  rw [List.map_cons, List.map_cons]
  by_cases q : y = x
  ·rw [if_pos q, if_pos q]; exact ⟨_, _, rfl, hv, Reld.put hv t⟩
  ·rw [if_neg q, if_neg q]; exact ⟨_, _, rfl, rv, Reld.put hv t⟩
theorem Reld.set {x : Str} {v : V} {v' : Value} {kvs : List (Str × V)} {kvs' : List (Str × Value)} (hv : Rel w κ v v') (h : Reld w κ kvs kvs') : Reld w κ (dset kvs x v) (stored kvs' x v') := by
 unfold dset stored
 have e : (kvs'.any fun kv => decide (kv.1 = x)) = kvs.any fun kv => decide (kv.1 = x) := by
  have h1 : ∀ {α : Type} (l : List (Str × α)), (l.any fun kv => decide (kv.1 = x)) = (l.map (·.1)).any fun y => decide (y = x) := fun l => by rw [List.any_map]; rfl
  rw [h1, h1, h.keyz]
 rw [e]
 split
 ·exact Reld.put hv h
 ·exact h.app ⟨_, _, rfl, hv, rfl⟩
theorem bels_app {c : Nat} : ∀ {x y : List V}, V.bels c x -> V.bels c y -> V.bels c (x ++ y)
 | [], _, _, h => h
 | _ :: _, _, ⟨a, b⟩, h => ⟨a, bels_app b h⟩
theorem beld_app {c : Nat} : ∀ {x y : List (Str × V)}, V.beld c x -> V.beld c y -> V.beld c (x ++ y)
 | [], _, _, h => h
 | (_, _) :: _, _, ⟨a, b⟩, h => ⟨a, beld_app b h⟩
theorem bels_set {c : Nat} {v : V} (hv : v.bel c) : ∀ {x : List V} (j : Nat), V.bels c x -> V.bels c (x.set j v)
 | [], _, h => h
 | _ :: _, 0, ⟨_, b⟩ => ⟨hv, b⟩
 | _ :: _, j + 1, ⟨a, b⟩ => ⟨a, bels_set hv j b⟩
theorem bels_erase {c : Nat} : ∀ {x : List V} (j : Nat), V.bels c x -> V.bels c (x.eraseIdx j)
 | [], _, h => h
 | _ :: _, 0, ⟨_, b⟩ => b
 | _ :: _, j + 1, ⟨a, b⟩ => ⟨a, bels_erase j b⟩
theorem bels_take {c : Nat} : ∀ {x : List V} (j : Nat), V.bels c x -> V.bels c (x.take j)
 | [], _, _ => by simp [V.bels]
 | _ :: _, 0, _ => trivial
 | _ :: _, j + 1, ⟨a, b⟩ => ⟨a, bels_take j b⟩
theorem bels_drop {c : Nat} : ∀ {x : List V} (j : Nat), V.bels c x -> V.bels c (x.drop j)
 | [], _, _ => by simp [V.bels]
 | _ :: _, 0, h => h
 | _ :: _, j + 1, ⟨_, b⟩ => bels_drop j b
theorem beld_set {c : Nat} {v : V} {x : Str} (hv : v.bel c) : ∀ {kvs : List (Str × V)}, V.beld c kvs -> V.beld c (kvs.map (fun kv => if kv.1 = x then (kv.1, v) else kv))
 | [], h => h
 | (y, u) :: r, ⟨a, b⟩ => by
  rw [List.map_cons]
  by_cases q : y = x
  ·rw [if_pos q]; exact ⟨hv, beld_set hv b⟩
  ·rw [if_neg q]; exact ⟨a, beld_set hv b⟩
theorem beld_dset {c : Nat} {v : V} {x : Str} {kvs : List (Str × V)} (hv : v.bel c) (h : V.beld c kvs) : V.beld c (dset kvs x v) := by
 unfold dset
 split
 ·exact beld_set hv h
 ·exact beld_app h ⟨hv, trivial⟩
theorem setListS {p : Addr} {xs : List Value} {i : Int} {u : Tok} {k : Nat} {y : Value} {h₀ : Heap} {l' : List (Addr × Sh)} {Q : Unit -> Shared -> Prop} (S : St w h₀ s.heap l) (r : Rep p (.list xs) (.list (xs.set k y)) l l') (hk : idx xs.length i = some k) (hn : i < 0) (hz : xs.length <= 100000)
  (h : ∀ h', St w h₀ h' l' -> Q () { s with heap := h' }) : wpAny (model prg w) A (PySem.setItem (.ref p) (.int i u) y) Q E s := by
 obtain ⟨o, ho, hz, n, rfl⟩ := S.has r.mem
 have hl : s.heap.IsList p xs.toArray := (S.has r.mem).list
 have hb := idx_bound hk
 have hidx := (idx_seq hk).1
 have hlt := (idx_seq hk).2
 unfold PySem.setItem
 try with_reducible refine wpAny_holding ?_
 first | refine wpAny_bind (wpAny_pure ?_) | skip
 refine wpAny_bind (wpAny_sequenceKey hl.typeIs (by decide) ?_)
 refine wpAny_bind (wpAny_callSpecial?_slot (name := Str.ofString "__setitem__") hl.typeIs slot_list_setitem
  (wpAny_call_entry slot_list_setitem hl.typeIs entry_list_setitem ?_ (args_list_setitem _ _ _)))
 show wpAny _ _ (Builtin.List.listSubscript? (.int i u) >>= _) _ _ s
 refine wpAny_bind (wpAny_listSubscript_int (fitsIndex_neg hn (by lia)) ?_)
 obtain ⟨j, rfl⟩ : ∃ j : Nat, i = Int.negSucc j := by
  cases i with
  | ofNat n => exact absurd hn (Int.not_lt.mpr (Int.natCast_nonneg n))
  | negSucc n => exact ⟨n, rfl⟩
 show wpAny _ _ ((Builtin.List.listItems (.ref p) >>= fun xs => pure ((seqIndex? (Int.negSucc j) xs.size).bind fun i => xs[i]?.map (i, ·))) >>= _) _ _ s
 refine wpAny_bind (wpAny_bind ?_)
 show wpAny _ _ (seqItems? (.ref p) >>= _) _ _ s
 refine wpAny_bind (wpAny_seqItems ho rfl (wpAny_pure (wpAny_pure ?_)))
 show wpAny _ _ _ _ _ s
 rw [show seqIndex? (Int.negSucc j) xs.toArray.size = some k from by rw [List.size_toArray]; exact hidx]
 have hx : xs.toArray[k]? = some xs[k] := by simp [hlt]
 simp only [Option.bind_some, hx, Option.map_some]
 show wpAny _ _ (setSeqItemAt p k y >>= _) _ _ s
 have fin := list_upd S r (·.setIfInBounds k y) (by rw [List.length_set]; exact hz) (by simp)
 refine wpAny_bind (wpAny_setSeqItemAt ho rfl ?_)
 first
  | exact wpAny_bind (wpAny_pure (wpAny_pure ⟨.none, rfl, wpAny_pure (h _ fin)⟩))
  | exact wpAny_pure ⟨.none, rfl, wpAny_pure (h _ fin)⟩
noncomputable def Itm (w : World) (A : Around) (a' b' : Value) (m : Sem Value) : Prop := ∀ {s : Shared} {T : String} {id : String} {Q : Value -> Shared -> Prop} {E}, s.TypeIs a' T -> typeLookup (.type T) "__getitem__" = pure (some (.builtin id)) -> wpAny (model prg w) A (PySem.getItem a' b') Q E s -> wpAny (model prg w) A m Q E s
theorem getD_tel {x : Str} {t : Tok} {m : Sem Value} (ra : Rel w κ a a') (hm : Itm w A a' (.str x t) m) : TelT w base κ rest (Rel w) σ (dictOf a >>= fun kvs => liftO (kvs.lookup x)) (wpAny (model prg w) A m) :=
 .dict ra fun kvs p e i => .lift1 fun v ev => .rd fun s E Q l D k => by
  subst e
  obtain ⟨_, r, i, _⟩ := i _ _ D
  obtain ⟨v', e', rv⟩ := r.get ev
  have hd := (i.has D.st).dict
  exact hm hd.typeIs F.slot_dict_getitem.lookup (wpAny_getItem_of (strKind_is prg w _ t) hd.mapOf e' (k _ _ rv))
theorem atV_tel {i : Int} {m : Sem Value} (h : ∀ (s : Shared) l, Led w κ s.heap σ rest l -> ∃ xs, Rels w κ vs xs /\ ∀ {k y Q E}, idx xs.length i = some k -> xs.length <= 100000 -> xs[k]? = some y -> Q y s -> wpAny (model prg w) A m Q E s) :
  TelT w base κ rest (Rel w) σ (atV vs i) (wpAny (model prg w) A m) := by
 delta atV
 exact .guard fun c => .lift fun k hk => .lift1 fun v e => .rd fun s E Q l D kk => by
  obtain ⟨xs, r, h⟩ := h s l D
  obtain ⟨v', e', rv⟩ := r.get e
  exact h (by rw [r.len]; exact hk) (by rw [r.len]; exact of_decide_eq_true c) e' (kk _ s.toks rv)
theorem pick_inv {i : Int} (h : pick vs i = some v) : ∃ k, idx vs.length i = some k /\ vs[k]? = some v := by
 unfold pick at h
 split at h
 ·rename_i h0
  refine ⟨i.toNat, ?_, h⟩
  have := (List.getElem?_eq_some_iff.mp h).1
  unfold idx
  rw [if_pos h0, if_pos (by lia)]
 ·exact Option.bind_eq_some_iff.mp h
theorem pickV_tel {i : Int} {m : Sem Value} (h : ∀ (s : Shared) l, Led w κ s.heap σ rest l -> ∃ xs, Rels w κ vs xs /\ ∀ {k y Q E}, idx xs.length i = some k -> xs[k]? = some y -> Q y s -> wpAny (model prg w) A m Q E s) :
  TelT w base κ rest (Rel w) σ (liftO (pick vs i)) (wpAny (model prg w) A m) :=
 .lift1 fun v e => .rd fun s E Q l D kk => by
  obtain ⟨k, hk, e⟩ := pick_inv e
  obtain ⟨xs, r, h⟩ := h s l D
  obtain ⟨v', e', rv⟩ := r.get e
  exact h (by rw [r.len]; exact hk) e' (kk _ s.toks rv)
theorem getI_tel {i : Int} {t : Tok} {m : Sem Value} (ra : Rel w κ a a') (hm : Itm w A a' (.int i t) m) : TelT w base κ rest (Rel w) σ (getI a i) (wpAny (model prg w) A m) := by
 have key : TelT w base κ rest (Rel w) σ (getL a i) (wpAny (model prg w) A m) := by
  delta getL
  exact .list ra fun vs p e h => pickV_tel fun s l D => by
   subst e
   obtain ⟨xs, r, i⟩ := h _ _ D
   exact ⟨xs, r, fun hk hy hq => hm (i.has D.st).list.typeIs slot_list_getitem.lookup (getListS' D.st i hk (i.has D.st).len hy hq)⟩
 cases a with
 | str x =>
  obtain ⟨u, rfl, -⟩ := ra
  refine .lift fun k hk => .guard fun c => .lift1 fun v e => ?_
  have hb := idx_bound hk
  have hq := idx_seq hk
  obtain ⟨y, e1, rfl⟩ := Option.map_eq_some_iff.mp e
  refine .mint fun s E Q l D kk => ?_
  unfold chars at e1
  rw [List.getElem?_map, Array.getElem?_toList] at e1
  obtain ⟨c', hx, rfl⟩ := Option.map_eq_some_iff.mp e1
  refine hm (typeIs_str _ _ _) F.slot_str_getitem.lookup (P.getItem_str ?_ (by rw [hq.1]; exact hx) kk)
  have := of_decide_eq_true c
  rw [lim_eq] at this
  simp only [Bool.or_eq_false_iff, decide_eq_false_iff_not]
  lia
 | tup vs =>
  obtain ⟨p, xs, rfl, f, r⟩ := ra
  exact atV_tel fun s l D => ⟨xs, r, fun hk hz hy hq => hm (D.st.frz f).tup.typeIs slot_tuple_getitem.lookup (getTupS' D.st (.inr f) hk hz hy hq)⟩
 | _ => exact key
theorem item_tel {m : Sem Value} (ra : Rel w κ a a') (rb : Rel w κ b b') (hm : Itm w A a' b' m) : TelT w base κ rest (Rel w) σ (getItem a b) (wpAny (model prg w) A m) := by
 cases b with
 | int i => obtain ⟨t, rfl⟩ := rb; exact getI_tel ra hm
 | str x => obtain ⟨t, rfl, -⟩ := rb; exact getD_tel ra hm
 | _ => exact .fail
theorem getItem_tel (ra : Rel w κ a a') (rb : Rel w κ b b') : Tel w A base κ rest (Rel w) (getItem a b) (PySem.getItem a' b') := fun _ => item_tel ra rb fun _ _ h => h
theorem setItem_tel {c : V} {c' : Value} (ra : Rel w κ a a') (rb : Rel w κ b b') (rc : Rel w κ c c') : Tel w A base κ rest (fun _ _ _ => True) (setItem base a b c) (PySem.setItem a' b' c') := fun σ => by
 delta setItem
 refine .ref ra fun k p _ e hk => ?_
 subst e
 cases b with
 | int i =>
  obtain ⟨t, rfl⟩ := rb
  exact .listAt fun xs ho => .wr fun hw => .guard fun hc => .lift fun j hj => .putL hk ho (fun c hc hk hb => bels_set (hw c hc hk) j hb) fun s E Q l xs' S r k => by
   obtain ⟨l', rp, k⟩ := k _ (r.set j rc)
   exact setListS S rp (by rw [r.len]; exact hj) (of_decide_eq_true hc) (S.has rp.mem).len fun h' S' => k h' () s.toks S' trivial
 | str x =>
  obtain ⟨t, rfl, -⟩ := rb
  delta setD
  exact .dictAt fun kvs ho => .wr fun hw => .guard fun hc => .putD hk ho (fun c hc hk hb => beld_dset (hw c hc hk) hb) fun s E Q l kvs' S m r k => by
   obtain ⟨l', rp, k⟩ := k _ (r.set rc)
   exact wpAny_setItem_pairs (strKind_is prg w _ t) (S.has m).dict (fun h' hd hsb => k h' () _ (S.set rp hsb (has_dict hd)) trivial) (by rw [r.len, sizeLine_eq]; have := of_decide_eq_true hc; lia)
 | _ => exact .fail
end
structure FrRel (w : World) (κ : Kw) (fr : Fr) (env : Env) (bs : List (Str × Value)) : Prop where
 scope : env.scope = fr.scope
 kind : fr.scope.kind = .function
 globals : env.globals = mainGlobals
 builtins : env.builtins = builtinsNs
 cells : ∀ x k, fr.cells.lookup x = some k -> ∃ a, κ.ρ[k]? = some a /\ env.cells.lookup x = some a
 loc : ∀ x v, fr.loc.lookup x = some (some v) -> ∃ v', bs.lookup x = some v' /\ Rel w κ v v'
theorem FrRel.mono {w : World} {κ κ' : Kw} {fr : Fr} {env : Env} {bs : List (Str × Value)} (F : FrRel w κ fr env bs) (k : Kle κ κ') : FrRel w κ' fr env bs :=
 ⟨F.scope, F.kind, F.globals, F.builtins, fun x j h => let ⟨a, e, q⟩ := F.cells x j h; ⟨a, k.get e, q⟩, fun x v h => let ⟨v', e, q⟩ := F.loc x v h; ⟨v', e, Rel.mono k _ _ q⟩⟩
theorem FrRel.kindOf {w : World} {κ : Kw} {fr : Fr} {env : Env} {bs : List (Str × Value)} (F : FrRel w κ fr env bs) (x : Str) : env.kindOf x = fr.kind x := by
 unfold Env.kindOf Fr.kind; rw [F.scope]
structure Ctx' (w : World) (n : Nat) (A : Around) (κ : Kw) (fr : Fr) (env : Env) (bs : List (Str × Value)) (rest : List (Addr × Sh)) : Prop where
 T : Tp w κ.h
 ok : Ok n A
 F : FrRel w κ fr env bs
 mem : (env.locals, .ns bs) ∈ rest
noncomputable def FlR (w : World) (κ : Kw) : Fl -> Flow -> Prop
 | .next, f => f = .next
 | .cont, f => f = .cont
 | .brk, f => f = .brk
 | .ret v, f => ∃ v', f = .ret v' /\ Rel w κ v v'
noncomputable def StF (w : World) (env : Env) (rest : List (Addr × Sh)) (base : Nat) (κ : Kw) (r : Fl × Fr) (fl : Flow) (σ : List O) (s : Shared) : Prop :=
 ∃ bs, FlR w κ r.1 fl /\ FrRel w κ r.2 env bs /\ Sim w κ s σ ((env.locals, .ns bs) :: rest) /\ r.2.base = base
noncomputable def FrF (w : World) (env : Env) (rest : List (Addr × Sh)) (base : Nat) (κ : Kw) (fr : Fr) (_ : Unit) (σ : List O) (s : Shared) : Prop :=
 ∃ bs, FrRel w κ fr env bs /\ Sim w κ s σ ((env.locals, .ns bs) :: rest) /\ fr.base = base
structure Snd (L : Lv) (n : Nat) : Prop where
 e : ∀ {w : World} {e : Expr} {fr : Fr} {env : Env} {bs : List (Str × Value)} {A : Around} {κ : Kw} {rest : List (Addr × Sh)}, Ctx' w n A κ fr env bs rest -> Tel w A fr.base κ rest (Rel w) (L.ev e fr) (eval e env)
 t : ∀ {w : World} {e : Expr} {fr : Fr} {env : Env} {bs : List (Str × Value)} {A : Around} {κ : Kw} {rest : List (Addr × Sh)}, Ctx' w n A κ fr env bs rest -> Tel w A fr.base κ rest (fun _ b c => c = b) (L.tr e fr) (isTrue e env (eval e env))
 exs : ∀ {w : World} {st : List Stmt} {fr : Fr} {env : Env} {bs : List (Str × Value)} {A : Around} {κ : Kw} {rest : List (Addr × Sh)} {base : Nat}, Tp w κ.h -> Ok n A -> FrRel w κ fr env bs -> fr.base = base -> ∀ σ, TelF w base κ ((env.locals, .ns bs) :: rest) (StF w env rest base) σ (L.exs st fr) (wpAny (model prg w) A (execs st env))
 call : ∀ {w : World} {base : Nat} {f : V} {f' : Value} {args : List V} {args' : List Value} {A : Around} {κ : Kw} {rest : List (Addr × Sh)}, Tp w κ.h -> Ok n A -> Rel w κ f f' -> Rels w κ args args' ->
  Tel w A base κ rest (Rel w) (L.call base f args) (PySem.call f' args')
section
variable {w : World} {A : Around} {base n : Nat} {κ : Kw} {rest l : List (Addr × Sh)} {σ σ' : List O} {h : Heap} {v a b : V} {v' a' b' : Value} {vs : List V} {s : Shared} {E : Value -> Shared -> Prop} {fr : Fr} {env : Env} {bs : List (Str × Value)} {L : Lv}
theorem Ctx'.mono {κ' : Kw} (C : Ctx' w n A κ fr env bs rest) (k : Kle κ κ') : Ctx' w n A κ' fr env bs rest := ⟨C.T.mono k.h, C.ok, C.F.mono k, C.mem⟩
theorem Ctx'.sub {rest' : List (Addr × Sh)} (C : Ctx' w n A κ fr env bs rest) (h : ∀ p ∈ rest, p ∈ rest') : Ctx' w n A κ fr env bs rest' := ⟨C.T, C.ok, C.F, h _ C.mem⟩
theorem cell_ent {x : Str} {k : Nat} (F : FrRel w κ fr env bs) (hl : fr.cells.lookup x = some k) (ho : σ[k]? = some (.cell (some v))) {h : Heap} (D : Led w κ h σ rest l) : ∃ a v', env.cells.lookup x = some a /\ (a, .cell (some v')) ∈ l /\ Rel w κ v v' := by
 refine hd fun P0 q0 => ?_
 obtain ⟨a, ha, hc⟩ := F.cells x k hl
 obtain ⟨a', sh, ha', ro, m, -⟩ := D.get _ _ ho
 rw [ha] at ha'; cases ha'
 obtain ⟨v', rfl, rv⟩ := ro
 refine q0 ?_
 exact ⟨_, _, hc, m, rv⟩
theorem dbg {x : Str} (h : decide (x ≠ ("__debug__" : Str)) = true) : (x == ("__debug__" : Str)) = false := beq_false_of_ne (of_decide_eq_true h)
theorem cellV_tel {x : Str} {pos : Pos} {c : NameKind} (C : Ctx' w n A κ fr env bs rest) (hx : (x == ("__debug__" : Str)) = false) (hk : env.kindOf x = some c) (hc : c = .cell ∨ c = .free) : TelT w base κ rest (Rel w) σ (cellV x fr) (wpAny (model prg w) A (eval (.Name x pos) env)) := by
 delta cellV
 refine .guard fun g => .lift fun k hl => .look fun o ho => .lift fun c' e => .lift1 fun v e' => .rd fun s E Q l D kk => ?_
 rw [oCell_inv e, e'] at ho
 obtain ⟨a, v', hc', m, rv⟩ := cell_ent C.F hl ho D
 have hk2 : env.scope.kind = .function := by rw [C.F.scope]; exact C.F.kind
 rcases hc with rfl | rfl
 ·exact wpAny_Name (wpAny_loadName_cell hk2 hk hc' (D.st.has m).cell (kk _ s.toks rv)) hx
 ·exact wpAny_Name (wpAny_loadName_free hk2 hk hc' (D.st.has m).cell (kk _ s.toks rv) (beq_false_of_ne (of_decide_eq_true g))) hx
theorem name_tel {x : Str} {pos : Pos} (C : Ctx' w n A κ fr env bs rest) (hx : (x == ("__debug__" : Str)) = false) : Tel w A base κ rest (Rel w) (name x fr) (eval (.Name x pos) env) := fun σ => by
 delta name
 refine .lift fun c h1 => ?_
 have hk := (C.F.kindOf x).trans h1
 have hk2 : env.scope.kind = .function := by rw [C.F.scope]; exact C.F.kind
 cases c with
 | «local» =>
  refine .lift1 fun v e => .rd fun s E Q l D k => ?_
  obtain ⟨v', hb, rv⟩ := C.F.loc x v (Option.join_eq_some_iff.mp e)
  exact wpAny_Name (wpAny_loadName_local hk2 hk (D.st.has (D.sub _ C.mem)).ns hb (k _ s.toks rv)) hx
 | cell => exact cellV_tel C hx hk (.inl rfl)
 | free => exact cellV_tel C hx hk (.inr rfl)
 | globalImplicit =>
  refine .lift1 fun v e => .rd fun s E Q l D k => ?_
  obtain ⟨c, q, rfl⟩ := Option.map_eq_some_iff.mp e
  obtain ⟨K, X, F⟩ := C.T.X
  obtain ⟨mg, g⟩ := C.T.g
  have hg := C.F.globals
  rcases F.glob _ (lkMem q) with p | ⟨p, p2, p3⟩
  ·exact Name_function_global hk2 hk (loadGlobal_global (hg ▸ g.keeps D.st.keep) (mg_of X g p) (k _ s.toks rfl)) hx
  ·obtain ⟨mb, b, hB⟩ := C.T.b
   exact Name_function_global hk2 hk (loadGlobal_builtin (hg ▸ g.keeps D.st.keep) (mg_none_of X g p) (C.F.builtins ▸ b.keeps D.st.keep) ((hB x p3).trans p2) (k _ s.toks rfl)) hx
 | globalExplicit => exact .fail
theorem evNm_tel {x : Str} {pos : Pos} (C : Ctx' w n A κ fr env bs rest) : Tel w A base κ rest (Rel w) (evNm x fr) (eval (.Name x pos) env) := fun σ => by
 delta evNm
 exact .guard fun c => name_tel C (dbg c) σ
end
section
variable {w : World} {A : Around} {base n : Nat} {κ : Kw} {rest l : List (Addr × Sh)} {σ σ' : List O} {h h' : Heap} {v a b : V} {v' a' b' : Value} {vs : List V} {vs' : List Value} {s : Shared} {E : Value -> Shared -> Prop} {fr : Fr} {env : Env} {bs : List (Str × Value)} {L : Lv} {p pos : Pos} {x : Addr}
theorem Ok.one {m : Nat} {A : Around} (O : Ok (m + 1) A) : A.units + 30 < 9900 := by have := O.units; lia
theorem newO_fin {o : O} {sh : Sh} (D : Led w κ h σ rest l) (S' : St w κ.h h' ((x, sh) :: l)) (r : ORel w κ o sh) (hv : ∀ {κ'}, Kle κ κ' -> ORel w κ' o sh -> Has w κ'.h x sh -> x ≠ 1 -> Rel w κ' v (.ref x))
  {v1 : V} (e : (if isMut p then (do let k <- alloc o; pure (.ref k)) else pure v : M V) σ = some (v1, σ')) (hl : κ.ρ.length = σ.length) : ∃ κ', Kle κ κ' /\ κ'.τ = κ.τ /\ Rel w κ' v1 (.ref x) /\ Simh w κ' h' σ' rest /\ Pres base σ σ' := by
 split at e
 ·cases e
  exact ⟨_, Kle.push, rfl, ⟨x, by rw [<- hl]; exact List.getElem?_concat_length, rfl⟩, D.alloc h' x o sh (r.mono Kle.push) S', Pres.alloc _⟩
 ·cases e
  obtain ⟨h₁, k, f, S2⟩ := D.frz _ _ _ S'
  exact ⟨⟨h₁, κ.ρ, κ.τ⟩, Kle.ext k, rfl, hv (Kle.ext k) (r.mono (Kle.ext k)) f (S'.pos _ (.head _)), S2, Pres.rfl⟩
theorem newL_fin (D : Led w κ h σ rest l) (S' : St w κ.h h' ((x, .list vs') :: l)) (r : Rels w κ vs vs') {v1 : V} (e : newL p vs σ = some (v1, σ')) (hl : κ.ρ.length = σ.length) : ∃ κ', Kle κ κ' /\ κ'.τ = κ.τ /\ Rel w κ' v1 (.ref x) /\ Simh w κ' h' σ' rest /\ Pres base σ σ' :=
 newO_fin (o := .list vs) (v := .list vs) D S' ⟨vs', rfl, r⟩ (fun _ ⟨_, e, r⟩ f _ => ⟨_, _, rfl, e ▸ f, r⟩) e hl
theorem newD_fin {kvs : List (Str × V)} {kvs' : List (Str × Value)} (D : Led w κ h σ rest l) (S' : St w κ.h h' ((x, .dict kvs') :: l)) (r : Reld w κ kvs kvs') {v1 : V} (e : newD p kvs σ = some (v1, σ')) (hl : κ.ρ.length = σ.length) : ∃ κ', Kle κ κ' /\ κ'.τ = κ.τ /\ Rel w κ' v1 (.ref x) /\ Simh w κ' h' σ' rest /\ Pres base σ σ' :=
 newO_fin (o := .dict kvs) (v := .dict kvs) D S' ⟨kvs', rfl, r⟩ (fun _ ⟨_, e, r⟩ f n => ⟨_, _, rfl, e ▸ f, r, n⟩) e hl
theorem newL_tel {t : Sem Value} (h : ∀ (s : Shared) E Q l, Led w κ s.heap σ rest l -> (∀ vs' x h' tk, Rels w κ vs vs' -> St w κ.h h' ((x, .list vs') :: l) -> Q (.ref x) { s with heap := h', toks := tk }) -> wpAny (model prg w) A t Q E s) :
  TelT w base κ rest (Rel w) σ (newL p vs) (wpAny (model prg w) A t) := .leaf fun b σ' e hb s E Q S k => by
 obtain ⟨l, D⟩ := S.led
 refine h s E Q l D fun vs' x h' tk r S' => ?_
 obtain ⟨κ', k1, et, r1, S1, p1⟩ := newL_fin (base := base) D S' r e S.len
 exact k κ' _ _ k1 r1 S1 p1 (.inr ⟨et, rfl, rfl⟩)
theorem starEach_cons {e : Expr} {es : List Expr} (h : (!isStarred e) = true) : starEach (e :: es) env = (false, eval e env) :: starEach es env := by
 cases e with
 | Starred => cases h
 | _ => rfl
theorem evs_tel (I : Snd L n) (es : List Expr) : ∀ {κ : Kw}, Ctx' w n A κ fr env bs rest -> Tel w A fr.base κ rest (fun κ => Rels w κ) (evs L es fr) (spliced (backTo pos (starEach es env))) := by
 induction es with
 | nil => exact fun C σ => .rd fun s E Q l D k => wpAny_items_nil (k [] s.toks rfl)
 | cons e es ih => exact fun C σ => .guard fun c => .imp (.bind (I.e C σ) fun k1 r1 => .bind (ih (C.mono k1) _) fun k2 r2 => .done _ ⟨_, _, rfl, Rel.mono k2 _ _ r1, r2⟩) fun Q E s h => wpAny_items_cons (he := starEach_cons c) h
theorem st_const {c : Const} {k : Nat} : TelT w base κ rest (Rel w) σ (liftO (evConst c)) (wpAny (model prg w) A (eval (.Constant c k pos) env)) := .lift1 fun y e => by
 cases c with
 | none => cases e; exact .rd fun s E Q l D k => wpAny_Constant_none (k _ s.toks rfl)
 | bool b => cases e; exact .rd fun s E Q l D k => wpAny_Constant_bool (k _ s.toks rfl)
 | int b => cases e; exact .rd fun s E Q l D k => wpAny_Constant_int (k _ _ ⟨_, rfl⟩)
 | str b => cases e; exact .mint fun s E Q l D k => wpAny_Constant_str k
 | _ => cases e
theorem st_bin (I : Snd L n) (C : Ctx' w n A κ fr env bs rest) {e1 e2 : Expr} {op : Operator} : TelT w fr.base κ rest (Rel w) σ (L.ev e1 fr >>= fun a => L.ev e2 fr >>= fun b => binop op a b) (wpAny (model prg w) A (eval (.BinOp e1 op e2 pos) env)) :=
 .imp (.bind (I.e C σ) fun k1 r1 => .bind (I.e (C.mono k1) _) fun k2 r2 => binop_tel (Rel.mono k2 _ _ r1) r2 _) fun Q E s h => wpAny_BinOp h
theorem st_neg (I : Snd L n) (C : Ctx' w n A κ fr env bs rest) {e1 : Expr} : TelT w fr.base κ rest (Rel w) σ (L.ev e1 fr >>= fun v => intV v >>= fun i => pure (.int (-i))) (wpAny (model prg w) A (eval (.UnaryOp .USub e1 pos) env)) :=
 .imp (.bind (I.e C σ) fun k1 r1 => .int r1 fun i t _ e => e ▸ .rd fun s E Q l D k => P.neg_int (k _ _ ⟨_, rfl⟩)) fun Q E s h => wpAny_UnaryOp h
theorem st_ifK (I : Snd L n) (C : Ctx' w n A κ fr env bs rest) {t e1 e2 : Expr} : TelT w fr.base κ rest (Rel w) σ (L.tr t fr >>= fun b => if b then L.ev e1 fr else L.ev e2 fr) (wpAny (model prg w) A (eval (.IfExp t e1 e2 pos) env)) :=
 .imp (.bind (W2 := fun b Q E s => if b = true then wpAny (model prg w) A (eval e1 env) Q E s else wpAny (model prg w) A (eval e2 env) Q E s) (I.t C σ) fun k1 r1 => r1 ▸ .ite (fun c => .imp (I.e (C.mono k1) _) fun Q E s h => by rw [if_pos c]; exact h) fun c => .imp (I.e (C.mono k1) _) fun Q E s h => by rw [if_neg c]; exact h) fun Q E s h => wpAny_IfExp h
theorem marks_no {op : CmpOp} {e : Expr} (h : notSet e = true) : behindInMarks op e = false := by
 cases e with
 | Set => cases h
 | _ => rfl
theorem cmp1_tel {t : Sem Value} (I : Snd L n) (C : Ctx' w n A κ fr env bs rest) (O : Ok (n + 1) A) {e1 e2 : Expr} {op : CmpOp}
  (ht : behindInMarks op e2 = false -> ∀ {Q E s}, wpAny (model prg w) A (eval e1 env) (fun a => wpAny (model prg w) A (eval e2 env) (fun b => wpAny (model prg w) A (compareOp op a b) Q E) E) E s -> wpAny (model prg w) A t Q E s) : TelT w fr.base κ rest (fun _ k v' => v' = .bool k) σ (cmp1 L op e1 e2 fr) (wpAny (model prg w) A t) := by
 delta cmp1
 exact .guard fun c => .imp (.bind (I.e C σ) fun k1 r1 => .bind (I.e (C.mono k1) _) fun k2 r2 => cmp_tel O.one (Rel.mono k2 _ _ r1) r2 _) fun Q E s h => ht (marks_no c) h
theorem st_cmp (I : Snd L n) (C : Ctx' w n A κ fr env bs rest) (O : Ok (n + 1) A) {e1 : Expr} {es : List Expr} {ops : List CmpOp} :
  TelT w fr.base κ rest (Rel w) σ (liftO (one ops) >>= fun op => liftO (one es) >>= fun r => cmp1 L op e1 r fr >>= fun b => pure (.bool b)) (wpAny (model prg w) A (eval (.Compare e1 ops es pos) env)) :=
 .lift fun op q => .lift fun e2 q2 => .imp (.bind (cmp1_tel (t := eval (.Compare e1 ops es pos) env) I C O fun hm _ _ _ h => by rw [one_inv q, one_inv q2]; exact wpAny_Compare1 (hm := hm) h) fun k1 r1 => .done _ r1) fun Q E s h => h
theorem st_tup (I : Snd L n) (C : Ctx' w n A κ fr env bs rest) {es : List Expr} {k : Nat} : TelT w fr.base κ rest (Rel w) σ (evs L es fr >>= fun vs => guardM (decide (vs.length <= lim)) >>= fun _ => pure (.tup vs)) (wpAny (model prg w) A (eval (.Tuple es k pos) env)) :=
 .imp (.bind (evs_tel I es C σ) fun k1 r1 => .guard fun c => .vtup fun s E Q l D k => newTupleS D.st (by rw [r1.len]; exact of_decide_eq_true c) fun a h' => k _ a h' _ r1) fun Q E s h => by
  rw [arm_eval_Tuple]; exact wpAny_bind (wpAny_standAt (wpAny_bind h))
theorem st_list (I : Snd L n) (C : Ctx' w n A κ fr env bs rest) {es : List Expr} : TelT w fr.base κ rest (Rel w) σ (evs L es fr >>= fun vs => guardM (decide (vs.length <= lim)) >>= fun _ => newL pos vs) (wpAny (model prg w) A (eval (.List es pos) env)) :=
 .imp (.bind (evs_tel I es C σ) fun k1 r1 => .guard fun c => newL_tel fun s E Q l D k => newListS D.st (by rw [r1.len]; exact of_decide_eq_true c) fun a h' => k _ a h' _ r1) fun Q E s h => by
  rw [arm_eval_List]; exact wpAny_bind (wpAny_standAt (wpAny_bind h))
theorem att_ok {C : Addr} {a : Str} (h : attOk C a = true) : (C, a) ∈ attList := by
 obtain ⟨q, hq, e⟩ := List.any_eq_true.mp h
 rw [Bool.and_eq_true] at e
 rw [<- of_decide_eq_true e.1, <- of_decide_eq_true e.2]; exact hq
theorem handed (r : Rel w κ v v') (h : isCon v = false) : handedIn v' = true := by
 cases v with
 | none => cases r; rfl
 | bool => cases r; rfl
 | int => obtain ⟨t, rfl⟩ := r; rfl
 | str => obtain ⟨t, rfl, -⟩ := r; rfl
 | con => cases h
 | rng => obtain ⟨a, rfl, _⟩ := r; rfl
 | tup | list | dict => obtain ⟨a, _, rfl, _⟩ := r; rfl
 | ref => obtain ⟨a, _, rfl⟩ := r; rfl
 | inst | strm | view => obtain ⟨a, _, _, rfl, _⟩ := r; rfl
 | meth => obtain ⟨a, _, _, _, rfl, _⟩ := r; rfl
theorem getAtt_tel {nm : Str} {expr : Bool} (T : Tp w κ.h) (ra : Rel w κ a a') : Tel w A base κ rest (Rel w) (getAtt a nm) (getAttr a' nm expr) := fun σ => by
 delta getAtt
 refine .inst ra fun C k y d _ e hk f => .dictAt fun kvs ho => ?_
 subst e
 obtain ⟨K, X, F⟩ := T.X
 dsimp only
 cases hl : kvs.lookup nm with
 | some v0 =>
  refine .guard fun hc => .rd fun s E Q l D k => ?_
  rw [Bool.and_eq_true, Bool.not_eq_true'] at hc
  obtain ⟨kvs', rr, m⟩ := ent_dict hk ho D
  obtain ⟨v', e', rv⟩ := rr.get hl
  have AF := F.att _ (att_ok hc.1)
  exact attrI X D.st (.inr f) (.inl m) e' AF.get AF.dict AF.find rfl (handed rv hc.2) fun tk => k _ tk rv
 | none =>
  refine .guard fun hc => .val fun s E Q l D k => ?_
  rw [Bool.and_eq_true] at hc
  obtain rfl := of_decide_eq_true hc.1
  obtain rfl := of_decide_eq_true hc.2
  obtain ⟨kvs', rr, m⟩ := ent_dict hk ho D
  obtain ⟨od, I, e⟩ := instS (name := "_read_char") (D.st.frz f) (D.st.has m)
  rw [rr.none hl] at e
  have X' := X.keeps D.st.keep
  exact get_bind X' I (plainGet_of F.rc.1).1 (findObj_fn (f := 84) (g := .builtin "function.__get__") F.rc.2.1 F.rc.2.2.1 F.rc.2.2.2.2.1 F.rc.2.2.2.2.2 (by decide +kernel) e) (plainGet_of F.rc.1).2
   (wpAny_call (fn_get (s := { s with toks := s.toks + 1 }) X' F.rc.2.2.2.1 (handed_on rfl (k _ _ _ _ (fun κ' k f' _ => ⟨_, y, d, k.get hk, rfl, f', f.mono k.h⟩) (D.st.push (x := .exact (methodObj (.ref 84) (.ref y))) (o := methodObj (.ref 84) (.ref y)) rfl rfl)))))
theorem setAtt_tel {nm : Str} (T : Tp w κ.h) (ra : Rel w κ a a') (rv : Rel w κ b b') : Tel w A base κ rest (fun _ _ _ => True) (setAtt base a nm b) (setAttr a' nm b') := fun σ => by
 delta setAtt
 refine .inst ra fun C k y d _ e hk f => .dictAt fun kvs ho => .guard fun hc => .wr fun hw => .guard fun hz => .putD hk ho (fun c hc hk hb => beld_dset (hw c hc hk) hb) fun s E Q l kvs' S m r kk => ?_
 subst e
 obtain ⟨K, X, F⟩ := T.X
 have AF := F.att _ (att_ok hc)
 obtain ⟨l', rp, kk⟩ := kk _ (r.set rv)
 exact setI X S (.inr f) rp (by rw [r.len]; exact of_decide_eq_true hz) AF.set AF.over AF.taker AF.dict fun h' tk S' => kk h' () tk S' trivial
theorem att_base {e1 : Expr} {nm : Str} {t : Sem Value} (h : notCall0 e1 = true) : attributeBase e1 nm env t = t := by
 cases e1 with
 | Call f as ks p =>
  cases f with
  | Name =>
   cases as with
   | cons => rfl
   | nil =>
    cases ks with
    | cons => rfl
    | nil => cases h
  | _ => rfl
 | _ => rfl
theorem st_att (I : Snd L n) (C : Ctx' w n A κ fr env bs rest) {e1 : Expr} {nm : Str} : TelT w fr.base κ rest (Rel w) σ (guardM (notCall0 e1) >>= fun _ => L.ev e1 fr >>= fun v => getAtt v nm) (wpAny (model prg w) A (eval (.Attribute e1 nm pos) env)) :=
 .guard fun c => .imp (.bind (I.e C σ) fun k1 r1 => getAtt_tel (C.T.mono k1.h) r1 _) fun Q E s h => Attribute_any_ (he := congrArg (fun t => (do
   let o <- t
   standAt pos.atName
   let r <- holding [o] (getAttr o nm true)
   letTemporaryGo e1 o r
   pure r : Sem Value)) (att_base (t := eval e1 env) c)) h
theorem sub_plain {slice : Expr} {o i : Value} (h : slice? slice = none) : subscripted slice false o i = operate [o, i] (PySem.getItem o i) := by
 cases slice with
 | Slice => cases h
 | _ => rfl
theorem st_sub (I : Snd L n) (C : Ctx' w n A κ fr env bs rest) {e1 e2 : Expr} (h2 : slice? e2 = none) : TelT w fr.base κ rest (Rel w) σ (L.ev e1 fr >>= fun ov => L.ev e2 fr >>= fun iv => getItem ov iv) (wpAny (model prg w) A (eval (.Subscript e1 e2 pos) env)) :=
 .imp (.bind (I.e C σ) fun k1 r1 => .bind (I.e (C.mono k1) _) fun k2 r2 => item_tel (Rel.mono k2 _ _ r1) r2 fun hT hl h => tail_any hT hl h (sub_plain h2)) fun Q E s h => Subscript_ h
theorem part_tel (I : Snd L n) (C : Ctx' w n A κ fr env bs rest) (e : Option Expr) : Tel w A fr.base κ rest (fun _ i v => IsPart v i) (intO L e fr) (evalPart e env) := fun σ => by
 cases e with
 | none => rw [evalPart_none]; exact .rd fun s E Q l D k => wpAny_pure (k _ s.toks .none)
 | some e => rw [evalPart_some]; exact .imp (.bind (I.e C σ) fun k1 r1 => .int r1 fun i t _ e => .done _ (e ▸ .int i t)) fun Q E s h => h
theorem take_min {α : Type} (xs : List α) (i j : Nat) : (xs.drop (min i xs.length)).take (min j xs.length - min i xs.length) = (xs.take j).drop i := by
 rw [List.drop_take]
 rcases Nat.le_total i xs.length with h | h
 ·rw [Nat.min_eq_left h]
  rcases Nat.le_total j xs.length with q | q
  ·rw [Nat.min_eq_left q]
  ·rw [Nat.min_eq_right q, List.take_of_length_le (by rw [List.length_drop]; exact Nat.le_refl _), List.take_of_length_le (by rw [List.length_drop]; exact Nat.sub_le_sub_right q i)]
 ·rw [Nat.min_eq_right h, List.drop_length, List.drop_eq_nil_of_le h, List.take_nil, List.take_nil]
theorem clip_min {n : Nat} {i : Int} (h : 0 <= i) : clipAt n i = min i.toNat n := by
 unfold clipAt
 obtain ⟨c, rfl⟩ := Int.eq_ofNat_of_zero_le h
 rw [if_neg (Int.not_lt.mpr h)]
 rcases Nat.le_total c n with q | q
 ·rw [Int.min_eq_left (Int.ofNat_le.mpr q), Int.max_eq_right (Int.natCast_nonneg _), Int.toNat_natCast, Nat.min_eq_left q]
 ·rw [Int.min_eq_right (Int.ofNat_le.mpr q), Int.max_eq_right (Int.natCast_nonneg _), Int.toNat_natCast, Int.toNat_natCast, Nat.min_eq_right q]
theorem pick_two {xs : List Value} {lo hi : Option Int} (h1 : 0 <= lo.getD 0) (h2 : 0 <= hi.getD xs.length) :
  (slicePick xs.toArray lo hi none).toList = (xs.take (hi.getD xs.length).toNat).drop (lo.getD 0).toNat := by
 rw [slicePick_plain, <- take_min]
 have e1 : lo.elim 0 (clipAt xs.length) = min (lo.getD 0).toNat xs.length := by
  cases lo with
  | none => exact (Nat.zero_min _).symm
  | some i => exact clip_min h1
 have e2 : hi.elim xs.length (clipAt xs.length) = min (hi.getD xs.length).toNat xs.length := by
  cases hi with
  | none => exact (Nat.min_self _).symm
  | some i => exact clip_min h2
 rw [<- e1, <- e2]
 rfl
theorem every_skip {st : Nat} : ∀ (k : Nat) (vs : List V), every st k vs = every st 0 (vs.drop k)
 | 0, _ => rfl
 | _ + 1, [] => rfl
 | k + 1, _ :: vs => every_skip k vs
theorem pick_run' {st : Nat} (hst : 0 < st) : ∀ (m i : Nat) (vs : List V) (xs : List Value), Rels w κ vs xs -> xs.length <= i + st * m -> (m ≠ 0 -> i + st * (m - 1) < xs.length) ->
  Rels w κ (every st 0 (vs.drop i)) (((List.range m).map fun k => i + st * k).filterMap (xs[·]?))
 | 0, i, vs, xs, r, h1, _ => by
  have : vs.drop i = [] := by rw [List.drop_eq_nil_of_le]; rw [<- r.len]; lia
  rw [this]; rfl
 | m + 1, i, vs, xs, r, h1, h2 => by
  have h2 := h2 (by lia)
  have hi : i < xs.length := by
   have : 0 <= st * (m + 1 - 1) := Nat.zero_le _
   lia
  have hv : i < vs.length := by rw [<- r.len]; exact hi
  have e1 : vs.drop i = vs[i] :: vs.drop (i + 1) := (List.getElem_cons_drop ..).symm
  obtain ⟨y, hy, ry⟩ := r.get (List.getElem?_eq_getElem hv)
  have e2 : every st 0 (vs.drop i) = vs[i] :: every st 0 (vs.drop (i + st)) := by
   rw [e1]
   show vs[i] :: every st (st - 1) (vs.drop (i + 1)) = _
   rw [every_skip, List.drop_drop]
   congr 3
   lia
  rw [e2, List.range_succ_eq_map, List.map_cons, List.filterMap_cons]
  have e3 : xs[i + st * 0]? = some y := by simpa using hy
  rw [e3]
  refine ⟨y, _, rfl, ry, ?_⟩
  have ih := pick_run' hst m (i + st) vs xs r (by rw [Nat.mul_succ] at h1; lia) (fun hm => by
   have e : st * (m + 1 - 1) = st * (m - 1) + st := by
    obtain ⟨q, rfl⟩ := Nat.exists_eq_succ_of_ne_zero hm
    simp [Nat.mul_succ]
   lia)
  have e4 : (List.map (fun k => i + st * k) (List.map Nat.succ (List.range m))) = (List.range m).map fun k => i + st + st * k := by
   rw [List.map_map]
   apply List.map_congr_left
   intro k _
   show i + st * (k + 1) = _
   rw [Nat.mul_succ]; lia
  rw [e4]
  exact ih
theorem pick_step {xs : List Value} {lo : Option Int} {st : Int} (h1 : 0 <= lo.getD 0) (h2 : 0 < st) {vs : List V} (r : Rels w κ vs xs) : Rels w κ (every st.toNat 0 (vs.drop (lo.getD 0).toNat)) (slicePick xs.toArray lo none (some st)).toList := by
 obtain ⟨t, rfl⟩ : ∃ t : Nat, st = (t : Int) := ⟨st.toNat, by lia⟩
 have ht : 0 < t := by lia
 unfold slicePick
 simp only [List.toList_toArray, List.getElem?_toArray, List.size_toArray]
 have eb : sliceBounds lo none (some (t : Int)) xs.length = (((min (lo.getD 0).toNat xs.length : Nat) : Int), ((xs.length : Nat) : Int), (t : Int)) := by
  have h3 : (some (t : Int)).getD 1 > 0 := h2
  unfold sliceBounds
  simp only [h3, if_true]
  cases lo with
  | none => simp
  | some i =>
   have h1 : 0 <= i := h1
   have e : (max (0 : Int) (min (if i < 0 then i + (xs.length : Int) else i) (xs.length : Int))) = ((min i.toNat xs.length : Nat) : Int) := by
    rw [if_neg (by lia)]; lia
   simp only [e, Option.getD_some]
 rw [eb]
 dsimp only
 generalize hi : (lo.getD 0).toNat = i
 unfold sliceRange
 rw [if_pos (by lia : ((t : Int) > 0))]
 rw [List.map_congr_left (g := fun k => min i xs.length + t * k) (fun k _ => by
  have : ((min i xs.length : Nat) : Int) + (t : Int) * (k : Int) = ((min i xs.length + t * k : Nat) : Int) := by simp
  rw [this, Int.toNat_natCast])]
 have hdrop : vs.drop i = vs.drop (min i xs.length) := by
  by_cases q : i <= xs.length
  ·rw [Nat.min_eq_left q]
  ·rw [Nat.min_eq_right (by lia), List.drop_eq_nil_of_le (by rw [<- r.len]; lia), List.drop_eq_nil_of_le (by rw [<- r.len]; lia)]
 rw [show (t : Int).toNat = t from rfl, hdrop]
 have hle : min i xs.length <= xs.length := Nat.min_le_right _ _
 generalize min i xs.length = j at hle
 by_cases q : j < xs.length
 ·rw [if_pos (by lia)]
  have hm : (((xs.length : Int) - (j : Int) + (t : Int) - 1) / (t : Int)).toNat = (xs.length - j + t - 1) / t := by
   have : (xs.length : Int) - (j : Int) + (t : Int) - 1 = ((xs.length - j + t - 1 : Nat) : Int) := by lia
   rw [this, <- Int.natCast_ediv, Int.toNat_natCast]
  rw [hm]
  have hdiv := Nat.div_add_mod (xs.length - j + t - 1) t
  have hmod := Nat.mod_lt (xs.length - j + t - 1) ht
  refine pick_run' ht _ j vs xs r (by lia) (fun h0 => ?_)
  have : t * ((xs.length - j + t - 1) / t - 1) = t * ((xs.length - j + t - 1) / t) - t := by rw [Nat.mul_sub, Nat.mul_one]
  lia
 ·rw [if_neg (by lia)]
  exact pick_run' ht 0 j vs xs r (by lia) (fun h => absurd rfl h)
theorem adjust_to (b n : Nat) (hb : b <= n) : Builtin.Slice.sliceAdjust none (some (b : Int)) 1 (n : Int) = (0, (b : Int)) := by
 unfold Builtin.Slice.sliceAdjust
 have h1 : ¬ ((1 : Int) < 0) := by lia
 have h2 : ¬ ((b : Int) < 0) := by lia
 simp only [h1, h2, if_false]
 congr 1
 lia
theorem places_to (b : Nat) : Builtin.Slice.slicePlaces 0 (b : Int) 1 = b := by
 unfold Builtin.Slice.slicePlaces
 have h1 : (1 : Int) > 0 := by lia
 simp only [h1, if_true, Int.ediv_one]
 split <;> lia
theorem sliceApplied_to {sl : Addr} {b n : Nat} {u : Tok} {Q : Int × Int × Nat -> Shared -> Prop} (hs : s.heap.IsSliceOf sl .none (.int b u) .none) (hb : b <= n) (h : Q (0, 1, b) s) :
  wpAny (model prg w) A (Builtin.Slice.sliceApplied (.ref sl) (pure (n : Int))) Q E s := by
 obtain ⟨os, hos, hcs, hds⟩ := id hs
 unfold Builtin.Slice.sliceApplied Builtin.Slice.sliceFields
 refine wpAny_bind (wpAny_bind (wpAny_field hos hds (x := .none) rfl (wpAny_bind (wpAny_field hos hds (x := .int b u) rfl (wpAny_bind (wpAny_field hos hds (x := .none) rfl (wpAny_pure ?_)))))))
 refine wpAny_bind (slicePart_none ?_)
 show wpAny _ _ (if ((1 : Int) == 0) = true then _ else _) _ _ s
 rw [if_neg (by decide)]
 refine wpAny_bind (slicePart_none (wpAny_bind (slicePart_int (wpAny_bind (wpAny_pure ?_)))))
 show wpAny _ _ (match Builtin.Slice.sliceAdjust none (some (b : Int)) 1 (n : Int) with | (lo, hi) => pure (lo, (1 : Int), Builtin.Slice.slicePlaces lo hi 1)) _ _ s
 rw [adjust_to b n hb]
 show wpAny _ _ (pure ((0 : Int), (1 : Int), Builtin.Slice.slicePlaces 0 (b : Int) 1)) _ _ s
 rw [places_to b]
 exact wpAny_pure h
theorem pick_to (xs : List Value) (b : Nat) : ((List.range b).filterMap fun (k : Nat) => xs.toArray[((0 : Int) + (k : Int) * 1).toNat]?) = xs.take b := by
 induction b with
 | zero => simp
 | succ b ih =>
  rw [List.range_succ, List.filterMap_append, ih]
  have : ((0 : Int) + (b : Int) * 1).toNat = b := by lia
  simp only [List.filterMap_cons, this, List.filterMap_nil, List.getElem?_toArray]
  rw [List.take_succ]
  cases xs[b]? <;> rfl
theorem tupSliceS {t sl : Addr} {xs : List Value} {b : Nat} {u : Tok} {h₀ : Heap} {Q : Value -> Shared -> Prop} (S : St w h₀ s.heap l) (ra : In2 w h₀ l t (.tup xs)) (hs : s.heap.IsSliceOf sl .none (.int b u) .none) (hb : b < xs.length) (hz : xs.length <= 100000)
  (h : ∀ a h', St w h₀ h' ((a, .tup (xs.take b)) :: l) -> Q (.ref a) { s with heap := h' }) : wpAny (model prg w) A (PySem.getItem (.ref t) (.ref sl)) Q E s := by
 have ht := (ra.has S).tup
 have hsz : sizeOk (.seq (xs.take b).toArray) := by
  show (xs.take b).toArray.size <= sizeLine
  rw [List.size_toArray, List.length_take]
  exact sz (by lia)
 obtain ⟨os, hos, hcs, hds⟩ := id hs
 have hTs : s.TypeIs (.ref sl) "slice" := ⟨os, hos, hcs⟩
 unfold PySem.getItem
 try with_reducible refine wpAny_holding ?_
 first | refine wpAny_bind (wpAny_pure ?_) | skip
 refine wpAny_bind (wpAny_sequenceKey ht.typeIs (by decide) ?_)
 refine wpAny_bind (wpAny_callSpecial?_slot (name := Str.ofString "__getitem__") ht.typeIs slot_tuple_getitem
  (wpAny_call_entry slot_tuple_getitem ht.typeIs entry_tuple_getitem ?_ (args_tuple_getitem _ _)))
 show wpAny _ _ (Builtin.Tuple.tupleItemsOf (.ref t) >>= _) _ _ s
 refine wpAny_bind (tupleItemsOf_ ht ?_)
 refine wpAny_bind (wpAny_typeOf hTs ?_)
 rw [if_pos (by decide)]
 refine wpAny_bind (sliceApplied_to (n := xs.toArray.size) hs (by rw [List.size_toArray]; lia) ?_)
 have hno : ¬ (((0 : Int) == 0 && (1 : Int) == 1 && b == xs.toArray.size) = true) := by
  rw [List.size_toArray]
  have : (b == xs.length) = false := by rw [beq_eq_false_iff_ne]; lia
  rw [this]; simp
 show wpAny _ _ (if ((0 : Int) == 0 && (1 : Int) == 1 && b == xs.toArray.size) = true then _ else _) _ _ s
 rw [if_neg hno, pick_to xs b]
 have fin := h _ _ (S.push (x := .tup (xs.take b)) (o := { cls := .type "tuple", data := .seq (xs.take b).toArray }) ⟨_, rfl⟩ rfl)
 first
  | exact wpAny_bind (m := Builtin.Tuple.tupleExact _) (wpAny_newObj_type (wpAny_pure ⟨_, rfl, wpAny_pure fin⟩) hsz)
  | exact wpAny_bind (m := Builtin.Tuple.tupleExact _) (wpAny_newObj_type (wpAny_bind (wpAny_pure (wpAny_pure ⟨_, rfl, wpAny_pure fin⟩))) hsz)
  | exact wpAny_bind (wpAny_bind (m := Builtin.Tuple.tupleExact _) (wpAny_newObj_type (wpAny_pure (wpAny_pure ⟨_, rfl, wpAny_pure fin⟩)) hsz))
  | exact wpAny_bind (wpAny_bind (m := Builtin.Tuple.tupleExact _) (wpAny_newObj_type (wpAny_pure ⟨_, rfl, wpAny_pure fin⟩) hsz))
theorem listSliceS {t sl : Addr} {xs : List Value} {vl vu vt : Value} {lo hi st : Option Int} {h₀ : Heap} {Q : Value -> Shared -> Prop} (S : St w h₀ s.heap l) (ra : In2 w h₀ l t (.list xs)) (hs : s.heap.IsSliceOf sl vl vu vt)
  (pl : IsPart vl lo) (pu : IsPart vu hi) (ps : IsPart vt st) (h0 : st ≠ some 0) (hz2 : (slicePick xs.toArray lo hi st).toList.length <= 100000)
  (h : ∀ a h', St w h₀ h' ((a, .list (slicePick xs.toArray lo hi st).toList) :: l) -> Q (.ref a) { s with heap := h' }) : wpAny (model prg w) A (PySem.getItem (.ref t) (.ref sl)) Q E s :=
 wpAny_getItem_list_slice (ra.has S).list hs pl pu ps h0 (h _ _ (S.push ⟨hz2, _, rfl⟩ rfl)) (by rw [List.size_toArray]; exact sz (ra.has S).len)
theorem every_lenK (st : Nat) : ∀ (n : Nat) (vs : List V), (every st n vs).length <= vs.length
 | _, [] => Nat.le_refl _
 | 0, _ :: vs => Nat.succ_le_succ (every_lenK st _ vs)
 | _ + 1, _ :: vs => Nat.le_succ_of_le (every_lenK st _ vs)
theorem slice_len {vs zs : List V} {i1 i2 i3 : Option Int} (hz : sliceOf i1 i2 i3 vs = some zs) : zs.length <= vs.length := by
 unfold sliceOf at hz
 dsimp only at hz
 split at hz
 ·cases i3 with
  | none => cases hz; rw [List.length_drop, List.length_take]; lia
  | some s =>
   dsimp only at hz
   split at hz
   ·cases hz; exact Nat.le_trans (every_lenK _ _ _) (by rw [List.length_drop]; lia)
   ·cases hz
 ·cases hz
theorem slice_key {vs zs : List V} {xs : List Value} {i1 i2 i3 : Option Int} (r : Rels w κ vs xs) (hz : sliceOf i1 i2 i3 vs = some zs) : i3 ≠ some 0 /\ Rels w κ zs (slicePick xs.toArray i1 i2 i3).toList := by
 unfold sliceOf at hz
 dsimp only at hz
 split at hz
 ·rename_i h0
  cases i3 with
  | none =>
   cases hz
   rw [<- r.len] at h0 ⊢
   exact ⟨nofun, by rw [pick_two h0.1 h0.2]; exact (r.take _).drop _⟩
  | some st =>
   dsimp only at hz
   split at hz
   ·rename_i h1
    cases hz
    obtain ⟨h1, h2, rfl⟩ := h1
    exact ⟨fun q => by cases q; exact absurd h1 (by decide), pick_step h0.1 h1 r⟩
   ·cases hz
 ·cases hz
theorem opt_none {α : Type} {o : Option α} (h : o.isNone = true) : o = none := Option.isNone_iff_eq_none.mp h
theorem sliceV_tel {i1 i2 i3 : Option Int} {x2 x3 x4 : Value} {sl : Addr} {slice e1 : Expr} (ra : Rel w κ a a') (pl : IsPart x2 i1) (pu : IsPart x3 i2) (ps : IsPart x4 i3)
  (hs : ∀ o i, ∃ ops, subscripted slice false o i = operate ops (PySem.getItem o i)) (f0 : Has w κ.h sl (.exact { cls := .type "slice", data := .fields #[x2, x3, x4] })) : TelT w base κ rest (Rel w) σ (sliceV i1 i2 i3 a) (wpAny (model prg w) A (subscriptTail e1 slice a' (.ref sl))) := by
 have hsl : ∀ {h : Heap}, Ext κ.h h -> Heap.IsSliceOf h sl x2 x3 x4 := fun k => ⟨_, k _ _ f0.get, rfl, rfl⟩
 have key : TelT w base κ rest (Rel w) σ (sliceL i1 i2 i3 a) (wpAny (model prg w) A (subscriptTail e1 slice a' (.ref sl))) := by
  delta sliceL
  refine .list ra fun vs p e h => .lift fun zs hz => .vlist fun s E Q l D k => ?_
  subst e
  obtain ⟨xs, r, i⟩ := h _ _ D
  obtain ⟨ops, hs⟩ := hs (.ref p) (.ref sl)
  have key := slice_key r hz
  exact tail_any (i.has D.st).list.typeIs slot_list_getitem.lookup (listSliceS D.st i (hsl D.st.keep) pl pu ps key.1 (by rw [key.2.len]; exact Nat.le_trans (slice_len hz) (r.len ▸ (i.has D.st).len)) fun a h' => k _ a h' _ key.2) hs
 cases a with
 | tup vs =>
  obtain ⟨p, xs, rfl, f, r⟩ := ra
  refine .guard fun g => .lift fun b hb => .guard fun hc => .vtup fun s E Q l D k => ?_
  rw [Bool.and_eq_true] at g
  have hc := of_decide_eq_true hc
  rw [lim_eq] at hc
  obtain ⟨c, rfl⟩ := Int.eq_ofNat_of_zero_le hc.1
  obtain rfl := opt_none g.1
  obtain rfl := opt_none g.2
  subst hb
  cases pl; cases ps; cases pu
  obtain ⟨ops, hs⟩ := hs (.ref p) (.ref sl)
  exact tail_any (D.st.frz f).tup.typeIs slot_tuple_getitem.lookup (tupSliceS D.st (.inr f) (hsl D.st.keep) (by rw [r.len]; exact Int.ofNat_lt.mp hc.2.1) (by rw [r.len]; exact hc.2.2) fun a h' => k _ a h' _ (r.take c)) hs
 | _ => exact key
theorem st_slice (I : Snd L n) (C : Ctx' w n A κ fr env bs rest) {e1 : Expr} {lo hi st : Option Expr} {q : Pos} : TelT w fr.base κ rest (Rel w) σ (L.ev e1 fr >>= fun ov => intO L lo fr >>= fun l => intO L hi fr >>= fun h => intO L st fr >>= fun s => sliceV l h s ov) (wpAny (model prg w) A (eval (.Subscript e1 (.Slice lo hi st q) pos) env)) :=
 .imp (.bind (I.e C σ) fun k1 r1 => .bind (part_tel I (C.mono k1) lo _) fun {_ _ x2 _} k2 r2 => .bind (part_tel I (C.mono (k1.trans k2)) hi _) fun {_ _ x3 _} k3 r3 => .bind (part_tel I (C.mono (k1.trans (k2.trans k3))) st _) fun {_ _ x4 _} k4 r4 =>
  .new (sh := .exact { cls := .type "slice", data := .fields #[x2, x3, x4] }) rfl rfl fun _ x k5 f => sliceV_tel (slice := .Slice lo hi st q) (e1 := e1) (Rel.mono (k2.trans (k3.trans (k4.trans k5))) _ _ r1) r2 r3 r4 (fun o i => by cases st <;> exact ⟨_, rfl⟩) f) fun Q E s h => Subscript_ (wpAny_mono h (fun v s h => wpAny_Slice h) fun _ _ h => h)
theorem evSub_tel (I : Snd L n) (C : Ctx' w n A κ fr env bs rest) {e1 e2 : Expr} : TelT w fr.base κ rest (Rel w) σ (evSub L e1 e2 fr) (wpAny (model prg w) A (eval (.Subscript e1 e2 pos) env)) := by
 unfold evSub
 cases q : slice? e2 with
 | none => exact st_sub I C q
 | some r =>
  cases e2 with
  | Slice => cases q; exact st_slice I C
  | _ => cases q
theorem newDict_ok (w : World) : (Sh.dict []).ok w { cls := .type "dict", data := .dict #[] } := by
 obtain ⟨o, ho, hd⟩ := Heap.dictOf_iff.mp (Heap.DictOf.new (knd := strKind prg w) (default : Heap))
 rw [Heap.get?_push_size _ rfl] at ho
 obtain rfl := Option.some.inj ho
 exact hd
theorem evPair_tel (I : Snd L n) (C : Ctx' w n A κ fr env bs rest) {ke ve : Expr} : TelT w fr.base κ rest (fun κ q (r : Value × Value) => (∃ t, r.1 = .str q.1 t) /\ Rel w κ q.2 r.2) σ (evPair L ke ve fr) fun Q E => wpAny (model prg w) A (eval ke env) (fun k' => wpAny (model prg w) A (eval ve env) (fun v' => Q (k', v')) E) E := by
 delta evPair
 exact .bind (I.e C σ) fun k1 r1 => .str r1 fun x t _ e _ => .bind (I.e (C.mono k1) _) fun k2 r2 => .done (_, _) ⟨⟨t, e⟩, r2⟩
theorem st_dict1 (I : Snd L n) (C : Ctx' w n A κ fr env bs rest) {ke ve : Expr} : TelT w fr.base κ rest (Rel w) σ (evPair L ke ve fr >>= fun q => newD pos [q]) (wpAny (model prg w) A (eval (.Dict [some ke] [ve] pos) env)) := fun v σ' hm hb s E Q S k => bindC hm fun q σ1 e1 e2 => by
 obtain ⟨l, D⟩ := S.led
 have C2 := C.sub (rest' := (s.heap.objs.size, .dict []) :: rest) fun _ h => .tail _ h
 refine wpAny_Dict_any (by rfl) rfl (by simp) (by simp) (evalPairs_cons ?_)
 refine wpAny_mono (evPair_tel I C2 _ _ e1 hb { s with heap := s.heap.push { cls := .type "dict", data := .dict #[] } } E (fun r s' => ∃ κ1, Kle κ κ1 /\ ((∃ t, r.1 = .str q.1 t) /\ Rel w κ1 q.2 r.2) /\ Sim w κ1 s' σ1 ((s.heap.objs.size, .dict []) :: rest) /\ Pres fr.base σ σ1) ⟨D.put _ _ _ (D.st.push (x := .dict []) (newDict_ok w) rfl), S.tk⟩ fun κ1 b s1 k1 r1 S1 p1 => ⟨κ1, k1, r1, S1, p1⟩) (fun k' s1 h => wpAny_bind (wpAny_mono h (fun v' s2 h => ?_) fun _ _ h => h)) fun _ _ h => h
 obtain ⟨κ1, k1, ⟨⟨t, ek⟩, r1⟩, S1, p1⟩ := h
 refine wpAny_bind (wpAny_standAt (wpAny_pure (evalPairs_nil ?_)))
 cases ek
 obtain ⟨l2, D2, S3⟩ := S1.pop
 unfold storeAll
 refine wpAny_storeAll (knd := strKind prg w) _ [(q.1, v')] [] s2 _ ⟨strKind_is prg w q.1 t, rfl, trivial⟩ (S3.has (.head _)).dict (by simp [sizeLine_eq]) fun h' hd hsb => ?_
 have S4 := S3.set (x' := .dict [(q.1, v')]) .head hsb (has_dict hd)
 obtain ⟨κ3, k3, et, r3, S5, p3⟩ := newD_fin (base := fr.base) D2 S4 (kvs := [q]) ⟨_, _, rfl, r1, rfl⟩ e2 S1.len
 exact k κ3 _ _ (k1.trans k3) r3 ⟨S5, Tk.succ (S1.tk.same et)⟩ (p1.trans p3)
theorem evDict_tel (I : Snd L n) (C : Ctx' w n A κ fr env bs rest) {ks : List (Option Expr)} {es : List Expr} : TelT w fr.base κ rest (Rel w) σ (evDict L ks es pos fr) (wpAny (model prg w) A (eval (.Dict ks es pos) env)) := by
 cases ks with
 | nil =>
  refine .guard fun c => .leaf fun v σ' e hb s E Q S k => ?_
  refine hd fun P0 q0 => ?_
  obtain rfl := List.isEmpty_iff.mp c
  obtain ⟨l, D⟩ := S.led
  obtain ⟨κ3, k3, et, r3, S5, p3⟩ := newD_fin (base := fr.base) D (D.st.push (x := .dict []) (newDict_ok w) rfl) (kvs := []) rfl e S.len
  refine q0 ?_
  exact wpAny_Dict_empty (k κ3 _ _ k3 r3 S5 p3 (.inr ⟨et, rfl, rfl⟩))
 | cons k ks =>
  refine .guard fun c => .lift fun k1 e1 => .lift fun v e2 => ?_
  obtain rfl := List.isEmpty_iff.mp c
  rw [e1, one_inv e2]
  exact st_dict1 I C
theorem noStar (es : List Expr) : ∀ {σ σ' : List O} {vs : List V}, evs L es fr σ = some (vs, σ') -> (backTo pos (starEach es env)).any (·.1) = false := by
 induction es with
 | nil => exact fun _ => rfl
 | cons e es ih =>
  intro σ σ' vs hm
  refine bindC hm fun _ _ e1 e2 => bindC e2 fun _ _ e3 e4 => bindC e4 fun _ _ e5 e6 => ?_
  have c : (!isStarred e) = true := by
   cases h : !isStarred e with
   | true => rfl
   | false => rw [h] at e1; cases e1
  rw [starEach_cons c]
  exact ih e5
theorem callW (I : Snd L n) (C : Ctx' w n A κ fr env bs rest) {α β : Type} {F : Kw -> α -> β -> List O -> Shared -> Prop} {f' : Value} {first : List Value} {es : List Expr} {k : List V -> M α} {W' : Value -> Tr β}
  (hk : ∀ h, Ext κ.h h -> ∃ k, (k = Keeper.frame ∨ k = Keeper.machine ∨ k = Keeper.boundFrame) /\ Looks (model prg w) h (keeperOf f') k)
  (hc : ∀ {κ1 vs vs' σ1}, Kle κ κ1 -> Rels w κ1 vs vs' -> TelF w fr.base κ1 rest F σ1 (k vs) fun Q E => wpAny (model prg w) A (PySem.call f' (first ++ vs')) (fun x => W' x Q E) E) :
  TelF w fr.base κ rest F σ (evs L es fr >>= k) fun Q E => wpAny (model prg w) A (callWith pos f' first (backTo pos (starEach es env)) []) (fun x => W' x Q E) E := fun v σ' hm hb s E Q S kk => bindC hm fun vs σ1 e1 e2 => by
 refine callWith_of (P := fun h => Ext κ.h h) (by rw [noStar es e1]; rfl) hk ?_
 have key : wpAny (model prg w) A (spliced (backTo pos (starEach es env))) (fun vs' s1 => Ext κ.h s1.heap /\ wpAny (model prg w) A (PySem.call f' (first ++ vs')) (fun x => W' x Q E) E s1) E s :=
  evs_tel I es C σ _ _ e1 hb s E _ S fun κ1 x1 s1 k1 r1 S1 p1 => ⟨fun b o q => S1.keep b o (k1.h b o q), hc k1 r1 _ _ e2 (Nat.le_trans hb p1.len) s1 E Q S1 fun κ2 b s2 k2 r2 p2 => kk κ2 b s2 (k1.trans k2) r2 (p1.trans p2)⟩
 cases es with
 | nil =>
  cases e1
  exact evalArgs_nil3 ⟨S.keep, hc (vs' := []) Kle.rfl (show Rels w κ [] [] from rfl) _ _ e2 hb s E Q S kk⟩
 | cons y es =>
  refine bindC e1 fun _ _ c _ => ?_
  cases h : isStarred y with
  | true => rw [h] at c; cases c
  | false =>
   rw [starEach_cons (by rw [h]; rfl)] at key ⊢
   exact evalArgs_plain key
theorem keep_con (T : Tp w κ.h) {c : Value} (hk : ∀ K, Facts K -> keepB K c = true) : ∀ h, Ext κ.h h -> ∃ k, (k = Keeper.frame ∨ k = Keeper.machine ∨ k = Keeper.boundFrame) /\ Looks (model prg w) h (keeperOf c) k := fun h k => by
 obtain ⟨K, X, F⟩ := T.X
 have hk := hk K F
 unfold keepB at hk
 split at hk
 ·exact ⟨_, .inr (.inl rfl), fun A Q E s k q => wpAny_pure q⟩
 ·exact ⟨_, .inr (.inl rfl), fun A Q E s k q => wpAny_pure q⟩
 ·exact keeps_K hk h (X.keeps k)
theorem callee_ok {v : V} (h : isCallee v = true) : ∃ c, v = .con c /\ ∀ K, Facts K -> keepB K c = true := by
 cases v with
 | con c =>
  obtain ⟨q, hq, e⟩ := List.any_eq_true.mp h
  exact ⟨c, rfl, fun K F => eq_of_beq e ▸ List.all_eq_true.mp F.keep q hq⟩
 | _ => cases h
theorem call_head {fe : Expr} {es : List Expr} (h : attr? fe = none) : eval (.Call fe es [] pos) env = (do callWith pos (<- eval fe env) [] (backTo pos (starEach es env)) (backToKw pos (keywordEach [] env))) := by
 cases fe with
 | Attribute => cases h
 | _ => rfl
theorem st_callK (I : Snd L n) (C : Ctx' w n A κ fr env bs rest) {α β : Type} {F : Kw -> α -> β -> List O -> Shared -> Prop} {fe : Expr} {es : List Expr} {g : V -> Bool} {k : V -> List V -> M α} {W' : Value -> Tr β} (hne : attr? fe = none) (hg : ∀ v, g v = true -> isCallee v = true)
  (hc : ∀ {κ1 c vs vs' σ1}, Kle κ κ1 -> g (.con c) = true -> Rels w κ1 vs vs' -> TelF w fr.base κ1 rest F σ1 (k (.con c) vs) fun Q E => wpAny (model prg w) A (PySem.call c vs') (fun x => W' x Q E) E) :
  TelF w fr.base κ rest F σ (L.ev fe fr >>= fun fv => guardM (g fv) >>= fun _ => evs L es fr >>= fun vs => k fv vs) fun Q E => wpAny (model prg w) A (eval (.Call fe es [] pos) env) (fun x => W' x Q E) E :=
 .imp (.bind (I.e C σ) fun k1 r1 => .guard fun c => by
  obtain ⟨c', e, hk⟩ := callee_ok (hg _ c)
  subst e
  cases r1
  exact callW I (C.mono k1) (keep_con (C.T.mono k1.h) hk) fun k2 r2 => hc (k1.trans k2) c r2) fun Q E s h => Call_ (he := call_head hne) h
theorem st_call (I : Snd L n) (C : Ctx' w n A κ fr env bs rest) {fe : Expr} {es : List Expr} (hne : attr? fe = none) : TelT w fr.base κ rest (Rel w) σ (evCallN L fe es fr) (wpAny (model prg w) A (eval (.Call fe es [] pos) env)) := by
 delta evCallN
 exact (st_callK (g := fun fv => isCallee fv && decide (es.length < 30)) (k := fun fv vs => L.call fr.base fv vs) (W' := fun x Q _ s => Q x s) I C hne (fun _ h => (Bool.and_eq_true_iff.mp h).1) fun {κ1 c _ _ _} k _ r => (I.call (C.T.mono k.h) C.ok (show Rel w κ1 (.con c) c from rfl) r _).toF).toT
end
section
variable {w : World} {A : Around} {base n : Nat} {κ : Kw} {rest l ow ow' : List (Addr × Sh)} {σ σ' : List O} {h h' h₀ : Heap} {v a b : V} {v' a' b' : Value} {vs : List V} {vs' : List Value} {s : Shared} {E : Value -> Shared -> Prop} {fr : Fr} {env : Env} {bs : List (Str × Value)} {L : Lv} {p pos : Pos} {x : Addr} {elts : List Expr} {ek : Nat} {epos : Pos} {chk : Chk} {tg : Expr}
theorem St.step (S : St w h₀ h (ow ++ l)) (hk : ∀ b o, b ∉ ow.map (·.1) -> h.get? b = some o -> h'.get? b = some o) (hown : ∀ p ∈ ow', Has w h' p.1 p.2)
  (hnd : (ow'.map (·.1)).Nodup) (hsrc : ∀ b ∈ ow'.map (·.1), b ∈ ow.map (·.1) ∨ h.objs.size <= b) : St w h₀ h' (ow' ++ l) := by
 have hnd0 := S.nd
 rw [List.map_append, List.nodup_append] at hnd0
 have hnew : ∀ b, b ∈ ow.map (·.1) -> h₀.get? b = none := fun b hb => by
  obtain ⟨p, hp, rfl⟩ := List.mem_map.mp hb
  exact S.new _ (List.mem_append_left _ hp)
 have hsz : 3 < h.objs.size := by
  cases q : h₀.get? 3 with
  | none => exact absurd q S.three
  | some o => exact Heap.lt_size (S.keep _ _ q)
 refine ⟨fun b o e => hk b o (fun hb => by rw [hnew b hb] at e; cases e) (S.keep b o e), fun p hp => ?_, ?_, fun p hp => ?_, fun p hp => ?_, S.three⟩
 ·rcases List.mem_append.mp hp with hp | hp
  ·exact hown p hp
  ·obtain ⟨o, e, r⟩ := S.own p (List.mem_append_right _ hp)
   exact ⟨o, hk _ _ (fun hb => hnd0.2.2 _ hb _ (List.mem_map_of_mem hp) rfl) e, r⟩
 ·rw [List.map_append, List.nodup_append]
  refine ⟨hnd, hnd0.2.1, fun a ha b hb => ?_⟩
  rcases hsrc a ha with q | q
  ·exact hnd0.2.2 a q b hb
  ·rintro rfl
   obtain ⟨p, hp, rfl⟩ := List.mem_map.mp hb
   exact absurd (S.lt (List.mem_append_right _ hp)) (Nat.not_lt.mpr q)
 ·rcases List.mem_append.mp hp with hp | hp
  ·rcases hsrc _ (List.mem_map_of_mem hp) with q | q
   ·exact hnew _ q
   ·exact fresh0' S.keep q
  ·exact S.new p (List.mem_append_right _ hp)
 ·rcases List.mem_append.mp hp with hp | hp
  ·rcases hsrc _ (List.mem_map_of_mem hp) with q | q
   ·obtain ⟨p', hp', e⟩ := List.mem_map.mp q
    rw [<- e]; exact S.pos _ (List.mem_append_left _ hp')
   ·exact fun e => absurd (Nat.lt_of_lt_of_le hsz q) (by rw [e]; decide)
  ·exact S.pos p (List.mem_append_right _ hp)
theorem neH {α : Type} {a b : α} {l : List α} (h : b ∉ a :: l) : b ≠ a := fun q => h (q ▸ .head _)
theorem neT {α : Type} {a b : α} {l : List α} (h : b ∉ a :: l) : b ∉ l := fun q => h (.tail _ q)
theorem fM {α : Type} {a : α} {l : List α} {P : α -> Prop} (h : P a) (h2 : ∀ x ∈ l, P x) : ∀ x ∈ a :: l, P x := List.forall_mem_cons.mpr ⟨h, h2⟩
theorem fN {α : Type} {P : α -> Prop} : ∀ x ∈ ([] : List α), P x := fun _ h => nomatch h
theorem St.stepT {t : Sh} (S : St w h₀ h (ow ++ l)) (hk : ∀ b o, b ∉ ow.map (·.1) -> h.get? b = some o -> h'.get? b = some o) (e : ow'.map (·.1) = ow.map (·.1)) (ht : Has w h' h.objs.size t) (hp : ∀ p ∈ ow', Has w h' p.1 p.2) : St w h₀ h' ((h.objs.size, t) :: ow' ++ l) :=
 St.step (ow' := (h.objs.size, t) :: ow') S hk (fM ht hp) (by
  show (_ :: ow'.map (·.1)).Nodup
  rw [e]
  have := S.nd
  rw [List.map_append] at this
  exact List.nodup_cons.mpr ⟨fun hm => by
   obtain ⟨p, hp, e⟩ := List.mem_map.mp hm
   have := S.lt (List.mem_append_left _ hp)
   rw [e] at this
   exact Nat.lt_irrefl _ this, (List.nodup_append.mp this).1⟩) (by
  show ∀ b ∈ _ :: ow'.map (·.1), _
  rw [e]
  exact fM (.inr (Nat.le_refl _)) fun b hb => .inl hb)
theorem Simh.front (S : Simh w κ h σ (ow ++ rest)) : ∃ l, Led w κ h σ rest l /\ St w κ.h h (ow ++ l) := by
 induction ow generalizing rest with
 | nil => obtain ⟨l, D⟩ := S.led; exact ⟨l, D, D.st⟩
 | cons p ow ih =>
  obtain ⟨shs, hl, r, s⟩ := S.ex
  have s2 : St w κ.h h ((p :: ow) ++ (κ.ρ.zip shs ++ rest)) := s.perm (by
   rw [<- List.append_assoc, <- List.append_assoc]
   exact List.perm_append_comm.append_right _)
  exact ⟨_, Led.mk' hl r s2.right, s2⟩
theorem Sim.front (S : Sim w κ s σ (ow ++ rest)) : ∃ l, Led w κ s.heap σ rest l /\ St w κ.h s.heap (ow ++ l) := S.hp.front
noncomputable def Yld (w : World) (tg : Expr) (chk : Chk) (it : Value) : List V -> Kw -> List (Addr × Sh) -> Prop
 | [], κ, ow => ∀ (κ' : Kw) (A : Around) (σ : List O) (rest : List (Addr × Sh)) (s : Shared) (E : Value -> Shared -> Prop) (Q : Option Value -> Shared -> Prop),
   Kle κ κ' -> A.handled = none -> chk σ = true -> Sim w κ' s σ (ow ++ rest) -> (∀ s', Sim w κ' s' σ rest -> Q none s') -> wpAny (model prg w) A (pyNext it) Q E s
 | v :: vs, κ, ow => ∀ (κ' : Kw) (A : Around) (σ : List O) (rest : List (Addr × Sh)) (s : Shared) (E : Value -> Shared -> Prop) (Q : Option Value -> Shared -> Prop),
   Kle κ κ' -> A.handled = none -> chk σ = true -> Sim w κ' s σ (ow ++ rest) ->
   (∀ κ'' x s', Kle κ' κ'' -> κ''.ρ = κ'.ρ -> Rel w κ'' v x ->
    (∀ (E' : Value -> Shared -> Prop) (Q' : Unit -> Shared -> Prop), (∀ s'' ow', Sim w κ'' s'' σ (ow' ++ rest) -> Yld w tg chk it vs κ'' ow' -> Q' () s'') -> wpAny (model prg w) A (letOwnedTupleGo tg it x) Q' E' s') -> Q (some x) s') ->
   wpAny (model prg w) A (pyNext it) Q E s
theorem Yld.leaf0 {tg : Expr} {chk : Chk} {it : Value} (H : ∀ (κ' : Kw) (A : Around) (σ : List O) (rest : List (Addr × Sh)) (s : Shared) (E : Value -> Shared -> Prop) (Q : Option Value -> Shared -> Prop),
   Kle κ κ' -> A.handled = none -> chk σ = true -> Sim w κ' s σ (ow ++ rest) -> (∀ s', Simh w κ' s'.heap σ rest -> (_ : Og s s' := by exact ⟨rfl, rfl⟩) -> Q none s') -> wpAny (model prg w) A (pyNext it) Q E s) : Yld w tg chk it [] κ ow :=
 fun κ' A σ rest s E _ k hh hc S hQ => wpUp (H κ' A σ rest s E _ k hh hc S fun s' S' o q => hQ s' ⟨S', (S.tk.le q).og o⟩)
theorem Yld.leaf1 {tg : Expr} {chk : Chk} {it : Value} (H : ∀ (κ' : Kw) (A : Around) (σ : List O) (rest : List (Addr × Sh)) (s : Shared) (E : Value -> Shared -> Prop) (Q : Option Value -> Shared -> Prop),
   Kle κ κ' -> A.handled = none -> chk σ = true -> Sim w κ' s σ (ow ++ rest) ->
   (∀ κ'' x s', Kle κ' κ'' -> κ''.ρ = κ'.ρ -> Rel w κ'' v x -> Tk κ'' s'.toks s' ->
    (∀ (E' : Value -> Shared -> Prop) (Q' : Unit -> Shared -> Prop), (∀ s'' ow', Simh w κ'' s''.heap σ (ow' ++ rest) -> Yld w tg chk it vs κ'' ow' -> (_ : Og s' s'' := by exact ⟨rfl, rfl⟩) -> Q' () s'') -> wpAny (model prg w) A (letOwnedTupleGo tg it x) Q' E' s') -> Q (some x) s') ->
   wpAny (model prg w) A (pyNext it) Q E s) : Yld w tg chk it (v :: vs) κ ow :=
 fun κ' A σ rest s E _ k hh hc S hQ => H κ' A σ rest s E _ k hh hc S fun κ'' x s' k' e r tk hl =>
  hQ κ'' x s' k' e r fun E' _ hq => wpUp (hl E' _ fun s'' ow' S'' Y o q2 => hq s'' ow' ⟨S'', (tk.le q2).og o⟩ Y)
noncomputable def Slf (w : World) (it : Value) (κ : Kw) (ow : List (Addr × Sh)) : Prop :=
 ∀ (κ' : Kw) (A : Around) (σ : List O) (rest : List (Addr × Sh)) (s : Shared) (E : Value -> Shared -> Prop) (Q : Value -> Shared -> Prop), Kle κ κ' -> Sim w κ' s σ (ow ++ rest) -> Q it s -> wpAny (model prg w) A (pyIter it) Q E s
theorem Yld.mono {tg : Expr} {it : Value} {κ' : Kw} {ow : List (Addr × Sh)} {chk : Chk} (k : Kle κ κ') : ∀ {vs : List V}, Yld w tg chk it vs κ ow -> Yld w tg chk it vs κ' ow
 | [], Y => fun κ2 A σ rest s E Q k2 => Y κ2 A σ rest s E Q (k.trans k2)
 | _ :: _, Y => fun κ2 A σ rest s E Q k2 => Y κ2 A σ rest s E Q (k.trans k2)
noncomputable def ownsTuple (n : String) : Bool := ["enumerate", "zip", "dict_itemiterator", "dict_reverseitemiterator", "odict_iterator", "itertools.zip_longest", "itertools.pairwise"].contains n
theorem letGo_plain {tg : Expr} {I : Addr} {o : Obj} {T : String} {x : Value} {Q : Unit -> Shared -> Prop} (ho : s.heap.get? I = some o) (hc : o.cls = .type T) (hT : ownsTuple T = false) (hQ : Q () s) : wpAny (model prg w) A (letOwnedTupleGo tg (.ref I) x) Q E s := by
 have tup : wpAny (model prg w) A (do
   let (.ref r, .ref a) := (Value.ref I, x) | return
   let o <- load r
   match o.cls, o.data with
   | .type n, .fields vs =>
    if ["enumerate", "zip", "dict_itemiterator", "dict_reverseitemiterator", "odict_iterator", "itertools.zip_longest", "itertools.pairwise"].contains n && vs[0]? == some (rawInt a) then
     rule "for.unpacks-the-owned-tuple"
     updateField r 0 .none
   | _, _ => pure () : Sem Unit) Q E s := by
  cases x <;> try exact wpAny_pure hQ
  dsimp only
  refine wpAny_bind (wpAny_load ho ?_)
  obtain ⟨c, d, dt, sl⟩ := o
  dsimp only at hc
  subst hc
  cases dt <;> try exact wpAny_pure hQ
  dsimp only
  have : (["enumerate", "zip", "dict_itemiterator", "dict_reverseitemiterator", "odict_iterator", "itertools.zip_longest", "itertools.pairwise"].contains T) = false := hT
  rw [this]
  exact wpAny_pure hQ
 cases tg <;> first | exact wpAny_pure hQ | exact tup
theorem chk_list {k : Nat} {vs : List V} (h : chkOf k vs σ = true) : σ[k]? = some (.list vs) := by
 unfold chkOf at h
 split at h
 ·rename_i ws e
  rw [e, V.beqs_eq _ _ h]
 ·cases h
noncomputable def ListSrc (w : World) (chk : Chk) (vs : List V) (x : Addr) (κ : Kw) : Prop :=
 ∀ (κ' : Kw) (h : Heap) (σ : List O) (rest : List (Addr × Sh)) (l : List (Addr × Sh)), Kle κ κ' -> chk σ = true -> Led w κ' h σ rest l -> ∃ xs, In2 w κ'.h l x (.list xs) /\ Rels w κ' vs xs
theorem listSrc_val (r : Rel w κ (.list vs) v') : ∃ x, v' = .ref x /\ ListSrc w noChk vs x κ := by
 obtain ⟨x, xs, rfl, f, r⟩ := r
 exact ⟨x, rfl, fun κ' h σ rest l k _ D => ⟨xs, .inr (f.mono k.h), Rels.mono k _ _ r⟩⟩
theorem listSrc_ref {k : Nat} (r : Rel w κ (.ref k) v') : ∃ x, v' = .ref x /\ ListSrc w (chkOf k vs) vs x κ := by
 refine hd fun P0 q0 => ?_
 obtain ⟨x, hk, rfl⟩ := r
 refine q0 ?_
 refine ⟨x, rfl, fun κ' h σ rest l kk hc D => ?_⟩
 refine hd fun P0 q0 => ?_
 obtain ⟨a', sh, hk', ro, m, -⟩ := D.get _ _ (chk_list hc)
 rw [kk.get hk] at hk'; cases hk'
 obtain ⟨xs, rfl, rr⟩ := ro
 refine q0 ?_
 exact ⟨xs, .inl m, rr⟩
theorem drop_get {α : Type} {all vs : List α} {i : Nat} {v : α} (hd : all.drop i = v :: vs) : all[i]? = some v /\ all.drop (i + 1) = vs := by
 have h1 : (all.drop i)[0]? = some v := by rw [hd]; rfl
 rw [List.getElem?_drop] at h1
 exact ⟨h1, by rw [<- List.drop_drop, hd]; rfl⟩
theorem drop_end {α : Type} {all : List α} {i : Nat} (hd : all.drop i = []) : all.length <= i := by
 have := congrArg List.length hd
 simp at this; lia
theorem yld_gen {I : Addr} {T : String} {sh : Nat -> Sh} {all : List V} (hT : ownsTuple T = false) (hs : ∀ i o, (sh i).ok w o -> o.cls = .type T) (P : Kw -> Prop) (hP : ∀ {κ κ'}, Kle κ κ' -> P κ -> P κ')
  (fin : ∀ {i κ A σ l rest s E} {Q : Option Value -> Shared -> Prop}, P κ -> A.handled = none -> chk σ = true -> all.length <= i -> Led w κ s.heap σ rest l -> St w κ.h s.heap ((I, sh i) :: l) -> (∀ h', Heap.ExtBut I s.heap h' -> Q none { s with heap := h' }) -> wpAny (model prg w) A (pyNext (.ref I)) Q E s)
  (item : ∀ {i v κ A σ l rest s E} {Q : Option Value -> Shared -> Prop}, P κ -> chk σ = true -> all[i]? = some v -> Led w κ s.heap σ rest l -> St w κ.h s.heap ((I, sh i) :: l) -> Tk κ s.toks s ->
   (∀ κ' y h' tk, Kle κ κ' -> κ'.ρ = κ.ρ -> κ'.h = κ.h -> Rel w κ' v y -> Tk κ' tk s -> Has w h' I (sh (i + 1)) -> Heap.SameBut I s.heap h' -> Q (some y) { s with heap := h', toks := tk }) -> wpAny (model prg w) A (pyNext (.ref I)) Q E s) :
  ∀ {vs : List V} {i : Nat} {κ : Kw}, P κ -> all.drop i = vs -> Yld w tg chk (.ref I) vs κ [(I, sh i)] := by
 intro vs
 induction vs with
 | nil =>
  intro i κ p hd
  refine Yld.leaf0 fun κ' A σ rest s E Q k hh hc S0 hQ => ?_
  obtain ⟨l, D, S1⟩ := S0.hp.front
  exact fin (hP k p) hh hc (drop_end hd) D S1 fun h' he => hQ _ (D.back _ (S1.gone .head he))
 | cons v vs ih =>
  intro i κ p hd
  refine Yld.leaf1 fun κ' A σ rest s E Q k hh hc S0 hQ => ?_
  obtain ⟨l, D, S1⟩ := S0.hp.front
  obtain ⟨hv, hd'⟩ := drop_get hd
  refine item (hP k p) hc hv D S1 S0.tk fun κ2 y h' tk k2 e2 e3 r t2 hx hsb => hQ κ2 y _ k2 e2 r t2 fun E' Q' hq => ?_
  obtain ⟨o', ho', hok⟩ := hx
  exact letGo_plain ho' (hs _ _ hok) hT (hq _ [(I, sh (i + 1))] ((D.puts _ [_] (S1.set .head hsb ⟨o', ho', hok⟩)).mono k2 e3 e2) (ih (hP k2 (hP k p)) hd'))
theorem yld_list {I x : Addr} (all : List V) {κ : Kw} (hs : ListSrc w chk all x κ) : Yld w tg chk (.ref I) all κ [(I, .flds "list_iterator" [.ref x, .int 0 0])] :=
 yld_gen (sh := fun i => .flds "list_iterator" [.ref x, .int i 0]) (all := all) (T := "list_iterator") rfl (fun _ _ h => h.1) (ListSrc w chk all x) (fun k h κ' hp σ rest l kk => h κ' hp σ rest l (k.trans kk))
  (fun p hh hc hi D S k => by
   obtain ⟨xs, i2, r⟩ := p _ _ _ _ _ Kle.rfl hc D
   obtain ⟨o, ho, hcl, hdt⟩ := S.has (.head _)
   exact wpAny_pyNext_list_end hh ⟨o, ho, hcl, hdt⟩ (i2.has D.st).list (by rw [List.getElem?_toArray, List.getElem?_eq_none]; rw [r.len]; exact hi) k)
  (fun p hc hv D S t k => by
   obtain ⟨xs, i2, r⟩ := p _ _ _ _ _ Kle.rfl hc D
   obtain ⟨o, ho, hcl, hdt⟩ := S.has (.head _)
   obtain ⟨y, hy, ry⟩ := r.get hv
   exact wpAny_pyNext_list_item ⟨o, ho, hcl, hdt⟩ (i2.has D.st).list (by rw [List.getElem?_toArray]; exact hy) fun h' hit hsb => k _ y h' _ Kle.rfl rfl rfl ry t (by obtain ⟨o', ho', hcl', hdt'⟩ := hit; exact ⟨o', ho', hcl', hdt'⟩) hsb)
  (i := 0) hs rfl
theorem yld_tup {I : Addr} {all : List V} {xs : List Value} {κ : Kw} (f : Has w κ.h x (.tup xs)) (r : Rels w κ all xs) : Yld w tg noChk (.ref I) all κ [(I, .flds "tuple_iterator" [.ref x, .int 0 0])] :=
 yld_gen (sh := fun i => .flds "tuple_iterator" [.ref x, .int i 0]) (all := all) (T := "tuple_iterator") rfl (fun _ _ h => h.1) (fun κ => Has w κ.h x (.tup xs) /\ Rels w κ all xs) (fun k h => ⟨h.1.mono k.h, Rels.mono k _ _ h.2⟩)
  (fun p hh hc hi D S k => by
   obtain ⟨o, ho, hcl, hdt⟩ := S.has (.head _)
   exact wpAny_pyNext_tuple_end hh ⟨o, ho, hcl, hdt⟩ (S.frz p.1).tup (by rw [List.getElem?_toArray, List.getElem?_eq_none]; rw [p.2.len]; exact hi) k)
  (fun p hc hv D S t k => by
   obtain ⟨o, ho, hcl, hdt⟩ := S.has (.head _)
   obtain ⟨y, hy, ry⟩ := p.2.get hv
   exact wpAny_pyNext_tuple_item ⟨o, ho, hcl, hdt⟩ (S.frz p.1).tup (by rw [List.getElem?_toArray]; exact hy) fun h' hit hsb => k _ y h' _ Kle.rfl rfl rfl ry t (by obtain ⟨o', ho', hcl', hdt'⟩ := hit; exact ⟨o', ho', hcl', hdt'⟩) hsb)
  (i := 0) ⟨f, r⟩ rfl
theorem chars_get {z : Str} {i : Nat} {v : V} (h : ((chars z).map V.str)[i]? = some v) : ∃ c, z.cps[i]? = some c /\ v = .str ⟨#[c]⟩ := by
 unfold chars at h
 rw [List.getElem?_map, List.getElem?_map, Array.getElem?_toList, Option.map_map] at h
 obtain ⟨c, e, rfl⟩ := Option.map_eq_some_iff.mp h
 exact ⟨c, e, rfl⟩
theorem yld_str {I : Addr} {z : Str} {t : Tok} {κ : Kw} : Yld w tg noChk (.ref I) ((chars z).map V.str) κ [(I, .flds "str_ascii_iterator" [.str z t, .int 0 0])] :=
 yld_gen (sh := fun i => .flds "str_ascii_iterator" [.str z t, .int i 0]) (all := (chars z).map V.str) (T := "str_ascii_iterator") rfl (fun _ _ h => h.1) (fun _ => True) (fun _ _ => trivial)
  (fun p hh hc hi D S k => by
   obtain ⟨o, ho, hcl, hdt⟩ := S.has (.head _)
   exact wpAny_pyNext_ascii_end hh ⟨o, ho, hcl, hdt⟩ (by rw [Array.getElem?_eq_none]; rw [List.length_map] at hi; unfold chars at hi; rw [List.length_map, Array.length_toList] at hi; exact hi) k)
  (fun p hc hv D S tk k => by
   obtain ⟨o, ho, hcl, hdt⟩ := S.has (.head _)
   obtain ⟨c, hcx, rfl⟩ := chars_get hv
   exact wpAny_pyNext_ascii_item ⟨o, ho, hcl, hdt⟩ hcx fun h' hit hsb => k _ _ h' _ (Kle.mint tk _) rfl rfl (rel_mint tk _) (tk.mint _) (by obtain ⟨o', ho', hcl', hdt'⟩ := hit; exact ⟨o', ho', hcl', hdt'⟩) hsb)
  (i := 0) trivial rfl
theorem yld_vals {I d : Addr} {all : List (Str × V)} {kvs : List (Str × Value)} {ep : Nat} {κ : Kw} (f : κ.h.DictAt (strKind prg w) d kvs ep) (r : Reld w κ all kvs) : Yld w tg noChk (.ref I) (all.map (·.2)) κ [(I, .flds "dict_valueiterator" [.ref d, .int 0 0, .int kvs.length 0, .int ep 0])] :=
 yld_gen (sh := fun i => .flds "dict_valueiterator" [.ref d, .int i 0, .int kvs.length 0, .int ep 0]) (all := all.map (·.2)) (T := "dict_valueiterator") rfl (fun _ _ h => h.1) (fun κ => κ.h.DictAt (strKind prg w) d kvs ep /\ Reld w κ all kvs) (fun k h => ⟨h.1.at (k.h _), Reld.mono k _ _ h.2⟩)
  (fun p hh hc hi D S k => by
   refine hd fun P0 q0 => ?_
   obtain ⟨o, ho, hcl, hdt⟩ := S.has (.head _)
   refine q0 ?_
   exact wpAny_pyNext_values_end hh ⟨o, ho, hcl, hdt⟩ (p.1.at (D.st.keep _)) (by rw [List.getElem?_eq_none]; rw [p.2.len]; rw [List.length_map] at hi; exact hi) k)
  (fun p hc hv D S t k => by
   refine hd fun P0 q0 => ?_
   obtain ⟨o, ho, hcl, hdt⟩ := S.has (.head _)
   rw [List.getElem?_map] at hv
   obtain ⟨⟨z, u⟩, hv1, rfl⟩ := Option.map_eq_some_iff.mp hv
   obtain ⟨y, hy, ry⟩ := Reld.at' p.2 hv1
   refine q0 ?_
   exact wpAny_pyNext_values_item ⟨o, ho, hcl, hdt⟩ (p.1.at (D.st.keep _)) hy fun h' hit hsb => k _ y h' _ Kle.rfl rfl rfl ry t (by obtain ⟨o', ho', hcl', hdt'⟩ := hit; exact ⟨o', ho', hcl', hdt'⟩) hsb)
  (i := 0) ⟨f, r⟩ rfl
theorem ints_get {st : Int} {m : Nat} : ∀ {lo : Int} {i : Nat} {v : V}, (intsFrom lo st m)[i]? = some v -> v = .int (lo + st * i) /\ i < m := by
 induction m with
 | zero => intro lo i v h; cases h
 | succ m ih =>
  intro lo i v h
  cases i with
  | zero => cases h; exact ⟨by rw [Int.natCast_zero, Int.mul_zero, Int.add_zero], Nat.succ_pos _⟩
  | succ i =>
   obtain ⟨e, hi⟩ := ih h
   exact ⟨by rw [e, Int.natCast_succ, Int.mul_add, Int.mul_one, Int.add_assoc, Int.add_comm st], Nat.succ_lt_succ hi⟩
theorem ints_len {st : Int} {m : Nat} : ∀ {lo : Int}, (intsFrom lo st m).length = m := by
 induction m with
 | zero => intro; rfl
 | succ m ih => intro lo; exact congrArg (· + 1) ih
theorem yld_rng {I : Addr} {st lo : Int} {m : Nat} {κ : Kw} : Yld w tg noChk (.ref I) (intsFrom lo st m) κ [(I, .exact { cls := .type "range_iterator", data := .fields #[rawInt (lo + st * (0 : Nat)), rawInt ((m : Int) - (0 : Nat)), rawInt st] })] :=
 yld_gen (sh := fun i => .exact { cls := .type "range_iterator", data := .fields #[rawInt (lo + st * i), rawInt ((m : Int) - i), rawInt st] }) (all := intsFrom lo st m) (T := "range_iterator") rfl (fun _ _ h => by cases h; rfl) (fun _ => True) (fun _ _ => trivial)
  (fun p hh hc hi D S k => by
   obtain ⟨o, ho, rfl⟩ := S.has (.head _)
   rw [ints_len] at hi
   exact wpAny_pyNext_range_end hh ho (by lia) k)
  (fun p hc hv D S tk k => by
   obtain ⟨o, ho, rfl⟩ := S.has (.head _)
   obtain ⟨rfl, hi⟩ := ints_get hv
   refine wpAny_pyNext_range_item ho (by lia) fun h' hit hsb => k _ _ h' _ Kle.rfl rfl rfl ⟨_, rfl⟩ tk.succ ⟨_, hit, ?_⟩ hsb
   show _ = _
   rw [Int.natCast_succ, Int.mul_add, Int.mul_one, Int.add_assoc, Int.sub_sub])
  (i := 0) trivial rfl
theorem slf_of {I : Addr} {sh : Sh} (h : ∀ {A : Around} {s : Shared} {E : Value -> Shared -> Prop} {Q : Value -> Shared -> Prop}, Has w s.heap I sh -> Q (.ref I) s -> wpAny (model prg w) A (pyIter (.ref I)) Q E s) (r : List (Addr × Sh)) : Slf w (.ref I) κ ((I, sh) :: r) := fun κ' A σ rest s E Q k S hQ => by
 obtain ⟨l, D, S1⟩ := S.front
 exact h (S1.has (.head _)) hQ
theorem flds_has {I : Addr} {T : String} {fs : List Value} (x : Has w h I (.flds T fs)) : ∃ o, h.get? I = some o /\ o.cls = .type T /\ o.data = .fields fs.toArray := let ⟨o, e, c, d⟩ := x; ⟨o, e, c, d⟩
theorem pair_frz {κ : Kw} {a : Addr} {y z : Value} {vy vz : V} (S : Simh w κ h σ ((a, .tup [y, z]) :: rest)) (ry : Rel w κ vy y) (rz : Rel w κ vz z) : ∃ κ', Kle κ κ' /\ κ'.ρ = κ.ρ /\ κ'.τ = κ.τ /\ Rel w κ' (.tup [vy, vz]) (.ref a) /\ Simh w κ' h σ rest := by
 refine hd fun P0 q0 => ?_
 obtain ⟨l, D, S1⟩ := S.pop
 obtain ⟨h₁, k, f, S2⟩ := D.frz _ _ _ S1
 refine q0 ?_
 exact ⟨⟨h₁, κ.ρ, κ.τ⟩, Kle.ext k, rfl, rfl, ⟨_, _, rfl, f, ⟨_, _, rfl, Rel.mono (Kle.ext k) _ _ ry, _, _, rfl, Rel.mono (Kle.ext k) _ _ rz, rfl⟩⟩, S2⟩
theorem yld_items {I d : Addr} {all : List (Str × V)} {kvs : List (Str × Value)} {ep : Nat} : ∀ (vs : List (Str × V)) (i : Nat) (κ : Kw) (ok ov : Value), κ.h.DictAt (strKind prg w) d kvs ep -> Reld w κ all kvs -> all.drop i = vs -> (vs.all fun kv => !isQ kv.1) = true ->
  Yld w (.Tuple elts ek epos) noChk (.ref I) (vs.map fun kv => .tup [.str kv.1, kv.2]) κ [(I, .exact { cls := .type "dict_itemiterator", data := .fields #[.none, .bool false, .ref d, .int i 0, .int kvs.length 0, .int ep 0, ok, ov] })]
 | [], i, κ, ok, ov, f, r, hd, _ => by
  refine Yld.leaf0 ?_
  intro κ' A σ rest s E Q k hh hc S0 hQ
  have S := S0.hp
  obtain ⟨l, D, S1⟩ := S.front
  obtain ⟨o, ho, rfl⟩ := S1.has (.head _)
  refine wpAny_pyNext_items_end hh (i := i) ho (f.at fun o e => S1.keep _ _ (k.h _ _ e)) ?_ fun h' he => hQ _ (D.back _ (S1.gone .head he))
  rw [List.getElem?_eq_none]
  rw [r.len]; exact drop_end hd
 | (y, v) :: vs, i, κ, ok, ov, f, r, hd, hqs => by
  rw [List.all_cons, Bool.and_eq_true] at hqs
  have hqy : ∀ {κ3 : Kw} {tk : Tok}, isQ y = true -> tk ≠ 0 /\ κ3.τ.f tk = y := fun h => by have := hqs.1; simp only [h] at this; exact absurd this (by decide)
  refine Yld.leaf1 ?_
  intro κ' A σ rest s E Q k hh hc S0 hQ
  have S := S0.hp
  obtain ⟨l, D, S1⟩ := S.front
  obtain ⟨o, ho, rfl⟩ := S1.has (.head _)
  obtain ⟨hv, hd'⟩ := drop_get hd
  obtain ⟨v', hy, ry⟩ := Reld.at' r hv
  refine wpAny_pyNext_items_item (i := i) ho (f.at fun o e => S1.keep _ _ (k.h _ _ e)) hy fun key h' hkey hout htup hsz hk => ?_
  have S2 := S1.stepT (ow := [(I, _)]) (h' := h') (t := .tup [key, v']) (ow' := [(I, .exact { cls := .type "dict_itemiterator", data := .fields #[rawInt s.heap.objs.size, .bool false, .ref d, .int (i + 1 : Nat) 0, .int kvs.length 0, .int ep 0, key, v'] })])
   (fun b o hb e => hk b o (neH hb) e) rfl ⟨_, htup, _, rfl⟩ (fM ⟨_, hout, rfl⟩ fN)
  obtain ⟨t, rfl⟩ : ∃ t, key = .str y t := Value.isStrOf_shape hkey
  obtain ⟨κ2, k2, e2, et, r2, S3⟩ := pair_frz (vy := .str y) (vz := v) (D.puts _ _ S2) ⟨t, rfl, hqy⟩ (Rel.mono k _ _ ry)
  refine hQ κ2 _ _ k2 e2 r2 (S0.tk.same et) fun E' Q' hq => ?_
  obtain ⟨l3, D3, S4⟩ := Simh.front (ow := [(I, _)]) S3
  refine wpAny_letOwnedTupleGo_items hout fun h₂ he₂ hs₂ => hq _ [(I, .exact _)] (D3.puts _ _ (S4.set (x' := .exact _) .head hs₂ ⟨_, he₂, rfl⟩)) ?_
  exact yld_items vs (i + 1) κ2 _ _ (f.at fun o e => k2.h _ _ (k.h _ _ e)) (Reld.mono (k.trans k2) _ _ r) hd' hqs.2
theorem yld_enum {chk : Chk} {e it : Addr} (all : List V) (hei : e ≠ it) : ∀ (vs : List V) (i : Nat) (κ : Kw) (old : Value), ListSrc w chk all x κ -> all.drop i = vs ->
  Yld w (.Tuple elts ek epos) chk (.ref e) (enumV i vs) κ [(e, .exact { cls := .type "enumerate", data := .fields #[.none, .bool false, .ref it, rawInt i, .none, old] }), (it, .flds "list_iterator" [.ref x, .int i 0])]
 | [], i, κ, old, hs, hd => by
  refine Yld.leaf0 ?_
  intro κ' A σ rest s E Q k hh hc S0 hQ
  have S := S0.hp
  obtain ⟨l, D, S1⟩ := S.front
  obtain ⟨xs, i2, r⟩ := hs κ' _ _ _ _ k hc D
  obtain ⟨o, ho, rfl⟩ := S1.has (.head _)
  obtain ⟨o2, ho2, hcl, hdt⟩ := S1.has (.tail _ (.head _))
  refine wpAny_pyNext_enum_end hh ho (i := i) ⟨o2, ho2, hcl, hdt⟩ (i2.has D.st).list ?_ fun h' he => hQ _ (D.back _ ?_)
  ·rw [List.getElem?_toArray, List.getElem?_eq_none]
   rw [r.len]; exact drop_end hd
  ·exact (S1.gone (.tail .head) he).tail
 | v :: vs, i, κ, old, hs, hd => by
  refine Yld.leaf1 ?_
  intro κ' A σ rest s E Q k hh hc S0 hQ
  have S := S0.hp
  obtain ⟨l, D, S1⟩ := S.front
  obtain ⟨xs, i2, r⟩ := hs κ' _ _ _ _ k hc D
  obtain ⟨o, ho, rfl⟩ := S1.has (.head _)
  obtain ⟨o2, ho2, hcl, hdt⟩ := S1.has (.tail _ (.head _))
  obtain ⟨hv, hd'⟩ := drop_get hd
  obtain ⟨y, hy, ry⟩ := r.get hv
  have he1 : e < s.heap.objs.size := Heap.lt_size ho
  have he2 : it < s.heap.objs.size := Heap.lt_size ho2
  refine wpAny_pyNext_enum_item ho (i := i) ⟨o2, ho2, hcl, hdt⟩ (i2.has D.st).list (by rw [List.getElem?_toArray]; exact hy) hei fun h' hout hit htup hsz hk => ?_
  obtain ⟨o', ho', hcl', hdt'⟩ := id hit
  have S2 := S1.stepT (ow := [(e, _), (it, _)]) (h' := h') (t := .tup [.int i s.toks, y]) (ow' := [(e, .exact { cls := .type "enumerate", data := .fields #[rawInt s.heap.objs.size, .bool false, .ref it, rawInt ((i : Int) + 1), .none, y] }), (it, .flds "list_iterator" [.ref x, .int (i + 1 : Nat) 0])])
   (fun b o hb e => hk b o (neH hb) (neH (neT hb)) e) rfl ⟨_, htup, _, rfl⟩ (fM ⟨_, hout, rfl⟩ (fM hit fN))
  obtain ⟨κ2, k2, e2, et, r2, S3⟩ := pair_frz (vy := .int i) (vz := v) (D.puts _ _ S2) ⟨_, rfl⟩ ry
  refine hQ κ2 _ _ k2 e2 r2 (S0.tk.same et).succ fun E' Q' hq => ?_
  obtain ⟨l3, D3, S4⟩ := Simh.front (ow := [(e, _), (it, _)]) S3
  refine wpAny_letOwnedTupleGo_enum (s := { s with heap := h', toks := s.toks + 1 }) hout fun h₂ he₂ hs₂ => hq _ [(e, .exact _), (it, _)] (D3.puts _ _ (S4.set (x' := .exact _) .head hs₂ ⟨_, he₂, rfl⟩)) ?_
  have := yld_enum all hei vs (i + 1) κ2 y (fun κ3 h σ rest l kk hc D => hs κ3 h σ rest l ((k.trans k2).trans kk) hc D) hd'
  have ec : ((i + 1 : Nat) : Int) = (i : Int) + 1 := by lia
  rw [ec] at this
  exact this
noncomputable def zipOw (z TI TO i1 i2 x1 x2 : Addr) (i : Nat) (a b : Value) : List (Addr × Sh) :=
 [(z, .exact { cls := .type "zip", data := .fields #[.none, .bool false, .bool false, .ref TI, .ref TO] }), (TI, .exact { cls := .type "tuple", data := .seq #[.ref i1, .ref i2] }),
 (TO, .exact { cls := .type "tuple", data := .seq #[a, b] }), (i1, .flds "list_iterator" [.ref x1, .int i 0]), (i2, .flds "list_iterator" [.ref x2, .int i 0])]
theorem zip_nd {z TI TO i1 i2 x1 x2 : Addr} {i : Nat} {a b : Value} (Z : ZipApart z TI TO i1 i2 x1 x2) : ((zipOw z TI TO i1 i2 x1 x2 i a b).map (·.1)).Nodup := by
 simp only [zipOw, List.map_cons, List.map_nil, List.nodup_cons, List.mem_cons, List.not_mem_nil, or_false, not_or, not_false_eq_true, List.nodup_nil, and_true]
 exact ⟨⟨Z.TIz.symm, Z.TOz.symm, Z.i1z.symm, Z.i2z.symm⟩, ⟨Z.TITO, Z.TIi1, Z.TIi2⟩, ⟨Z.TOi1, Z.TOi2⟩, Z.i12⟩
theorem yld_zip {z TI TO i1 i2 x1 x2 : Addr} {all1 all2 : List V} {xs ys : List Value} (Z : ZipApart z TI TO i1 i2 x1 x2) : ∀ (v1 v2 : List V) (i : Nat) (κ : Kw) (a b : Value), Has w κ.h x1 (.list xs) -> Has w κ.h x2 (.list ys) -> Rels w κ all1 xs -> Rels w κ all2 ys ->
  all1.drop i = v1 -> all2.drop i = v2 -> Yld w (.Tuple elts ek epos) noChk (.ref z) (zipV v1 v2) κ (zipOw z TI TO i1 i2 x1 x2 i a b) := by
 have fin : ∀ (i : Nat) (κ : Kw) (a b : Value), Has w κ.h x1 (.list xs) -> Has w κ.h x2 (.list ys) -> (xs[i]? = none ∨ ys[i]? = none) -> Yld w (.Tuple elts ek epos) noChk (.ref z) [] κ (zipOw z TI TO i1 i2 x1 x2 i a b) := by
  intro i κ a b f1 f2 hend
  refine Yld.leaf0 ?_
  intro κ' A σ rest s E Q k hh hc S0 hQ
  have S := S0.hp
  obtain ⟨l, D, S1⟩ := S.front
  obtain ⟨o, ho, rfl⟩ := S1.has (.head _)
  obtain ⟨o2, ho2, rfl⟩ := S1.has (.tail _ (.head _))
  obtain ⟨o3, ho3, rfl⟩ := S1.has (.tail _ (.tail _ (.head _)))
  obtain ⟨o4, ho4, c4, d4⟩ := S1.has (.tail _ (.tail _ (.tail _ (.head _))))
  obtain ⟨o5, ho5, c5, d5⟩ := S1.has (.tail _ (.tail _ (.tail _ (.tail _ (.head _)))))
  refine wpAny_pyNext_zip_end hh Z ho ho2 ho3 (k1 := i) (k2 := i) ⟨o4, ho4, c4, d4⟩ ⟨o5, ho5, c5, d5⟩ ((f1.mono k.h).mono S1.keep).list ((f2.mono k.h).mono S1.keep).list (by simpa using hend) fun h' hk => hQ _ (D.back _ ?_)
  exact S1.step (ow' := []) (fun b o hb e => have hb : b ∉ [z, TI, TO, i1, i2] := hb; hk b o (neH hb) (neH (neT (neT hb))) (neH (neT (neT (neT hb)))) (neH (neT (neT (neT (neT hb))))) e) fN .nil fN
 intro v1
 induction v1 with
 | nil =>
  intro v2 i κ a b f1 f2 r1 r2 d1 d2
  exact fin i κ a b f1 f2 (.inl (by rw [List.getElem?_eq_none]; rw [r1.len]; exact drop_end d1))
 | cons w1 v1 ih =>
  intro v2 i κ a b f1 f2 r1 r2 d1 d2
  cases v2 with
  | nil => exact fin i κ a b f1 f2 (.inr (by rw [List.getElem?_eq_none]; rw [r2.len]; exact drop_end d2))
  | cons w2 v2 =>
  refine Yld.leaf1 ?_
  intro κ' A σ rest s E Q k hh hc S0 hQ
  have S := S0.hp
  refine hd fun P0 q0 => ?_
  obtain ⟨l, D, S1⟩ := S.front
  obtain ⟨o, ho, rfl⟩ := S1.has (.head _)
  obtain ⟨o2, ho2, rfl⟩ := S1.has (.tail _ (.head _))
  obtain ⟨o3, ho3, rfl⟩ := S1.has (.tail _ (.tail _ (.head _)))
  obtain ⟨o4, ho4, c4, d4⟩ := S1.has (.tail _ (.tail _ (.tail _ (.head _))))
  obtain ⟨o5, ho5, c5, d5⟩ := S1.has (.tail _ (.tail _ (.tail _ (.tail _ (.head _)))))
  obtain ⟨hv1, hd1⟩ := drop_get d1
  obtain ⟨hv2, hd2⟩ := drop_get d2
  obtain ⟨y1, hy1, ry1⟩ := r1.get hv1
  obtain ⟨y2, hy2, ry2⟩ := r2.get hv2
  refine q0 ?_
  refine wpAny_pyNext_zip_item Z ho ho2 ho3 (k1 := i) (k2 := i) ⟨o4, ho4, c4, d4⟩ ⟨o5, ho5, c5, d5⟩ ((f1.mono k.h).mono S1.keep).list ((f2.mono k.h).mono S1.keep).list (by rw [List.getElem?_toArray]; exact hy1) (by rw [List.getElem?_toArray]; exact hy2)
   fun h' hz hTO h1 h2 htup hsz hk => ?_
  have S2 := S1.stepT (ow := zipOw z TI TO i1 i2 x1 x2 i a b) (h' := h') (t := .tup [y1, y2]) (ow' := [(z, .exact { cls := .type "zip", data := .fields #[rawInt s.heap.objs.size, .bool false, .bool false, .ref TI, .ref TO] }), (TI, .exact { cls := .type "tuple", data := .seq #[.ref i1, .ref i2] }),
    (TO, .exact { cls := .type "tuple", data := .seq #[y1, y2] }), (i1, .flds "list_iterator" [.ref x1, .int (i + 1 : Nat) 0]), (i2, .flds "list_iterator" [.ref x2, .int (i + 1 : Nat) 0])])
   (fun b o hb e => have hb : b ∉ [z, TI, TO, i1, i2] := hb; hk b o (neH hb) (neH (neT (neT hb))) (neH (neT (neT (neT hb)))) (neH (neT (neT (neT (neT hb))))) e) rfl ⟨_, htup, _, rfl⟩
   (fM ⟨_, hz, rfl⟩ (fM ⟨_, hk TI _ Z.TIz Z.TITO Z.TIi1 Z.TIi2 ho2, rfl⟩ (fM ⟨_, hTO, rfl⟩ (fM h1 (fM h2 fN)))))
  refine hd fun P0 q0 => ?_
  obtain ⟨κ2, k2, e2, et, r2', S3⟩ := pair_frz (vy := w1) (vz := w2) (D.puts _ _ S2) (Rel.mono k _ _ ry1) (Rel.mono k _ _ ry2)
  refine q0 ?_
  refine hQ κ2 _ _ k2 e2 r2' (S0.tk.same et) fun E' Q' hq => ?_
  refine hd fun P0 q0 => ?_
  obtain ⟨l3, D3, S4⟩ := Simh.front (ow := [(z, _), (TI, _), (TO, _), (i1, _), (i2, _)]) S3
  refine q0 ?_
  refine wpAny_letOwnedTupleGo_zip hz fun h₂ he₂ hs₂ => hq _ (zipOw z TI TO i1 i2 x1 x2 (i + 1) y1 y2) (D3.puts _ _ (S4.set (x' := .exact _) .head hs₂ ⟨_, he₂, rfl⟩)) ?_
  exact ih v2 (i + 1) κ2 y1 y2 ((f1.mono k.h).mono k2.h) ((f2.mono k.h).mono k2.h) (Rels.mono (k.trans k2) _ _ r1) (Rels.mono (k.trans k2) _ _ r2) hd1 hd2
theorem tup_of {t : Expr} (h : isTupE t = true) : ∃ es k p, t = .Tuple es k p := by
 cases t with
 | Tuple => exact ⟨_, _, _, rfl⟩
 | _ => cases h
noncomputable def ItF (w : World) (rest : List (Addr × Sh)) (tg : Expr) (iv : Bool) (κ : Kw) (r : List V × Chk) (it : Value) (σ : List O) (s : Shared) : Prop := ∃ ow, Sim w κ s σ (ow ++ rest) /\ Yld w tg r.2 it r.1 κ ow /\ (iv = false -> Slf w it κ ow)
theorem TelF.it {r : List V × Chk} {iv : Bool} {t : Sem Value} (h : ∀ (s : Shared) E Q l, Led w κ s.heap σ rest l -> (∀ x sh h', St w κ.h h' ((x, sh) :: l) -> Yld w tg r.2 (.ref x) r.1 κ [(x, sh)] -> (iv = false -> Slf w (.ref x) κ [(x, sh)]) -> Q (.ref x) { s with heap := h' }) -> wpAny (model prg w) A t Q E s) :
  TelF w base κ rest (ItF w rest tg iv) σ (pure r) (wpAny (model prg w) A t) := fun a σ' e hb s E Q S k => by
 cases e
 obtain ⟨l, D⟩ := S.led
 exact h s E Q l D fun x sh h' S' Y f => k κ _ _ Kle.rfl ⟨[(x, sh)], ⟨D.put _ _ _ S', S.tk⟩, Y, f⟩ Pres.rfl
theorem range_pos {lo hi st : Int} : Builtin.Range.rangeSize lo hi st = ((rngLen lo hi st : Nat) : Int) := by
 have hpos : 0 <= Builtin.Range.rangeSize lo hi st := by
  unfold Builtin.Range.rangeSize
  split
  ·split
   ·have := Int.ediv_nonneg (a := hi - lo - 1) (b := st) (by lia) (by lia); lia
   ·lia
  ·split
   ·have := Int.ediv_nonneg (a := lo - hi - 1) (b := -st) (by lia) (by lia); lia
   ·lia
 exact (Int.toNat_of_nonneg hpos).symm
theorem itList_tel {iv : Bool} {x : Addr} (hs : ListSrc w chk vs x κ) (hc : chk σ = true) : TelF w base κ rest (ItF w rest tg iv) σ (pure (vs, chk)) (wpAny (model prg w) A (pyIter (.ref x))) := .it fun s E Q l D k => by
 obtain ⟨ys, i, rr⟩ := hs κ _ _ _ _ Kle.rfl hc D
 exact wpAny_pyIter_list (i.has D.st).list (k _ (.flds "list_iterator" [.ref x, .int 0 0]) _ (D.st.push ⟨rfl, rfl⟩ rfl) (yld_list vs hs) fun _ => slf_of (fun hx q => wpAny_pyIter_listiter (i := 0) (flds_has hx) q) [])
theorem itOf_tel (hv : isItems v = true -> isTupE tg = true) (r : Rel w κ v v') : TelF w base κ rest (ItF w rest tg (isView v)) σ (itOf v) (wpAny (model prg w) A (pyIter v')) := by
 cases v with
 | list vs =>
  obtain ⟨x, rfl, hs⟩ := listSrc_val r
  exact itList_tel hs rfl
 | tup vs =>
  obtain ⟨x, ys, rfl, f, rr⟩ := r
  exact .it fun s E Q l D k => wpAny_pyIter_tuple (D.st.frz f).tup (k _ (.flds "tuple_iterator" [.ref x, .int 0 0]) _ (D.st.push ⟨rfl, rfl⟩ rfl) (yld_tup f rr) fun _ => slf_of (fun hx q => wpAny_pyIter_tupleiter (i := 0) (flds_has hx) q) [])
 | str z =>
  obtain ⟨t, rfl, -⟩ := r
  exact .guard fun hc => .it fun s E Q l D k => wpAny_pyIter_ascii hc (k _ (.flds "str_ascii_iterator" [.str z t, .int 0 0]) _ (D.st.push ⟨rfl, rfl⟩ rfl) yld_str fun _ => slf_of (fun hx q => wpAny_pyIter_striter_ascii (i := 0) (flds_has hx) q) [])
 | rng lo hi st =>
  obtain ⟨x, rfl, t, u, u', hr⟩ := r
  refine .guard fun hc => .it fun s E Q l D k => ?_
  rw [Bool.and_eq_true] at hc
  refine wpAny_pyIter_range (D.st.keep _ _ hr) hc.1 (k _ (.exact _) _ (D.st.push ?_ rfl) yld_rng fun _ => slf_of (fun hx q => wpAny_pyIter_rangeiter hx.get q) [])
  show _ = _
  rw [range_pos, Int.natCast_zero, Int.mul_zero, Int.add_zero, Int.sub_zero]
 | view it kvs =>
  obtain ⟨x, d, kvs', rfl, fv, fd, rr, hne⟩ := r
  obtain ⟨epo, hat⟩ := fd.dict.dictAt
  cases it with
  | true =>
   obtain ⟨es, ek, ep, rfl⟩ := tup_of (hv rfl)
   exact .guard fun hq => .it fun s E Q l D k => wpAny_pyIter_items ⟨_, (D.st.frz fv).get, rfl, rfl⟩ (hat.at (D.st.keep _)) (k _ (.exact _) _ (D.st.push rfl rfl) (yld_items kvs 0 κ _ _ hat rr rfl hq) nofun)
  | false => exact .it fun s E Q l D k => wpAny_pyIter_values ⟨_, (D.st.frz fv).get, rfl, rfl⟩ (hat.at (D.st.keep _)) (k _ (.flds "dict_valueiterator" [.ref d, .int 0 0, .int kvs'.length 0, .int epo 0]) _ (D.st.push ⟨rfl, rfl⟩ rfl) (yld_vals hat rr) nofun)
 | ref k =>
  refine .listAt fun vs ho => ?_
  obtain ⟨x, rfl, hs⟩ := listSrc_ref (vs := vs) r
  obtain ⟨a, hk, e⟩ := r
  cases e
  exact .it fun s E Q l D kk => by
   obtain ⟨ys, rr, m⟩ := ent_list hk ho D
   exact wpAny_pyIter_list (D.st.has m).list (kk _ (.flds "list_iterator" [.ref x, .int 0 0]) _ (D.st.push ⟨rfl, rfl⟩ rfl) (yld_list vs hs) fun _ => slf_of (fun hx q => wpAny_pyIter_listiter (i := 0) (flds_has hx) q) [])
 | _ => exact .fail
end
section
variable {w : World} {A : Around} {base n : Nat} {κ : Kw} {rest l ow ow' : List (Addr × Sh)} {σ σ' : List O} {h h' h₀ : Heap} {v a b : V} {v' a' b' : Value} {vs : List V} {vs' : List Value} {s : Shared} {E : Value -> Shared -> Prop} {fr fr' : Fr} {env : Env} {bs : List (Str × Value)} {L : Lv} {p pos : Pos} {x : Addr} {elts : List Expr} {ek : Nat} {epos : Pos} {chk : Chk} {tg : Expr}
theorem TelF.frm {α β : Type} {F : Kw -> α -> β -> List O -> Shared -> Prop} {m : M Fr} {f : Fr -> M α} {W1 : Tr Unit} {W2 : Tr β} (h1 : TelF w base κ ((env.locals, .ns bs) :: rest) (FrF w env rest base) σ m W1)
  (h2 : ∀ {κ' bs' fr' σ'}, Kle κ κ' -> FrRel w κ' fr' env bs' -> fr'.base = base -> m σ = some (fr', σ') -> TelF w base κ' ((env.locals, .ns bs') :: rest) F σ' (f fr') W2) : TelF w base κ ((env.locals, .ns bs) :: rest) F σ (m >>= f) fun Q E => W1 (fun _ => W2 Q E) E := fun a σ' hm hb s E Q S k =>
 bindC hm fun fr1 σ1 e1 e2 => h1 _ _ e1 hb s E _ S fun κ1 _ s1 k1 ⟨bs1, F1, S1, b1⟩ p1 => h2 k1 F1 b1 e1 _ _ e2 (Nat.le_trans hb p1.len) s1 E Q S1 fun κ' b s' k2 r p2 => k κ' b s' (k1.trans k2) r (p1.trans p2)
theorem TelF.done {α β : Type} {F : Kw -> α -> β -> List O -> Shared -> Prop} {a : α} (b : β) (r : ∀ s, Sim w κ s σ rest -> F κ a b σ s) : TelF w base κ rest F σ (pure a) fun Q _ s => Q b s := fun _ _ e _ s E Q S k => by
 cases e; exact k κ b s Kle.rfl (r s S) Pres.rfl
theorem setL_lk {x z : Str} {v : V} {loc : List (Str × Option V)} : (setL x v loc).lookup z = if z = x then (loc.lookup z).map fun _ => some v else loc.lookup z := by
 induction loc with
 | nil =>
  by_cases q : z = x
  ·rw [if_pos q]; rfl
  ·rw [if_neg q]; rfl
 | cons q r ih =>
  obtain ⟨y, u⟩ := q
  rw [setL_c]
  by_cases q : y = x
  ·subst q
   rw [if_pos rfl, lookup_cons', lookup_cons']
   by_cases q2 : y = z
   ·subst q2; rw [if_pos rfl, if_pos rfl, if_pos rfl]; rfl
   ·rw [if_neg q2, if_neg q2, if_neg (Ne.symm q2)]
  ·rw [if_neg q, lookup_cons', lookup_cons', ih]
   by_cases q2 : y = z
   ·subst q2; rw [if_pos rfl, if_pos rfl, if_neg q]
   ·rw [if_neg q2, if_neg q2]
theorem FrRel.setL {x : Str} (F : FrRel w κ fr env bs) (r : Rel w κ v v') : FrRel w κ { fr with loc := Mine.setL x v fr.loc } env ((x, v') :: bs) := by
 refine ⟨F.scope, F.kind, F.globals, F.builtins, F.cells, fun z u h => ?_⟩
 have h : (Mine.setL x v fr.loc).lookup z = some (some u) := h
 rw [setL_lk] at h
 rw [lookup_cons']
 by_cases q : z = x
 ·rw [if_pos q] at h
  obtain ⟨_, _, e⟩ := Option.map_eq_some_iff.mp h
  cases e
  exact ⟨v', if_pos q.symm, r⟩
 ·rw [if_neg q] at h
  obtain ⟨u', e, ru⟩ := F.loc z u h
  exact ⟨u', by rw [if_neg (Ne.symm q)]; exact e, ru⟩
theorem fn_not_class (F : FrRel w κ fr env bs) : (env.scope.kind == .class || (env.scope.kind == .module && env.locals != env.globals)) = false := by
 rw [F.scope, F.kind]; rfl
theorem cell_sh {c : Option V} {sh : Sh} (ro : ORel w κ (.cell c) sh) : ∃ v0, sh = .cell v0 := by
 cases c with
 | none => exact ⟨_, ro⟩
 | some c => obtain ⟨v0, e, -⟩ := ro; exact ⟨_, e⟩
theorem storeName_tel {xn : Str} (F : FrRel w κ fr env bs) (hb : fr.base = base) (r : Rel w κ v v') : TelF w base κ ((env.locals, .ns bs) :: rest) (FrF w env rest base) σ (asg1 xn v fr) (wpAny (model prg w) A (storeName env xn v')) := by
 delta asg1
 refine .lift fun c h1 => ?_
 have hk := (F.kindOf xn).trans h1
 cases c with
 | «local» =>
  intro a σ' e hbl s E Q S k
  refine hd fun P0 q0 => ?_
  cases e
  obtain ⟨l, D, S1⟩ := S.pop
  refine q0 ?_
  exact storeL S1 hk .head (fun h' S2 => k κ () _ Kle.rfl ⟨_, F.setL r, ⟨D.put _ _ _ S2, S.tk.succ⟩, hb⟩ Pres.rfl) (fn_not_class F)
 | cell =>
  refine .lift fun k hl => .guard fun hc => .look fun o ho => .lift fun c0 e0 => fun a σ' e hbl s E Q S kk => ?_
  unfold putR at e
  split at e
  case isFalse => cases e
  refine hd fun P0 q0 => ?_
  cases e
  rw [oCell_inv e0] at ho
  obtain ⟨x, hx, hcl⟩ := F.cells xn k hl
  obtain ⟨l, D⟩ := S.led
  obtain ⟨x', sh, hx', ro, mm, upd⟩ := D.get _ _ ho
  rw [hx] at hx'; cases hx'
  obtain ⟨v0, rfl⟩ := cell_sh ro
  obtain ⟨l', rp, back⟩ := upd (.cell (some v)) (.cell (some v')) ⟨_, rfl, r⟩
  refine q0 ?_
  exact storeC D.st hk hcl rp (fun h' S2 => kk κ () _ Kle.rfl ⟨bs, F, ⟨back _ S2, S.tk⟩, hb⟩ (Pres.set fun c hc' hk' hb2 => absurd (Nat.lt_of_lt_of_le hk' hc') (Nat.not_lt.mpr (hb ▸ of_decide_eq_true hc)))) (by rw [F.scope]; exact F.kind)
 | _ => exact .fail
theorem nameE_inv {t : Expr} {x : Str} (h : nameE t = some x) : ∃ p, t = .Name x p := by
 cases t with
 | Name => cases h; exact ⟨_, rfl⟩
 | _ => cases h
theorem asgNames_tel (ts : List Expr) : ∀ {us : List V} {us' : List Value} {fr : Fr} {bs : List (Str × Value)} {σ : List O} {κ : Kw}, FrRel w κ fr env bs -> fr.base = base -> Rels w κ us us' ->
  TelF w base κ ((env.locals, .ns bs) :: rest) (FrF w env rest base) σ (asgNames ts us fr) (wpAny (model prg w) A (assignInOrder ((assignEach ts env).map (·.2)) us')) := by
 induction ts with
 | nil => intro us us' fr bs σ κ F hb r; exact .guard fun c => fun a σ' e _ s E Q S k => by cases e; exact wpAny_pure (k κ () s Kle.rfl ⟨bs, F, S, hb⟩ Pres.rfl)
 | cons t ts ih =>
  intro us us' fr bs σ κ F hb r
  cases us with
  | nil => exact .fail
  | cons u us =>
   obtain ⟨u', r', rfl, ru, rt⟩ := r
   refine .lift fun xn e => ?_
   obtain ⟨p, rfl⟩ := nameE_inv e
   exact .imp (.frm (storeName_tel F hb ru) fun k1 F1 b1 _ => ih F1 b1 (Rels.mono k1 _ _ rt)) fun Q E s h => wpAny_bind (wpAny_holding (wpAny_assign_Name h))
theorem asgNames_each (ts : List Expr) : ∀ {us : List V} {fr : Fr} {σ : List O} {r}, asgNames ts us fr σ = some r -> (assignEach ts env).length = us.length /\ (assignEach ts env).findIdx? (·.1) = none := by
 induction ts with
 | nil =>
  intro us fr σ r hm
  cases us with
  | nil => exact ⟨rfl, rfl⟩
  | cons => cases hm
 | cons t ts ih =>
  intro us fr σ r hm
  cases us with
  | nil => cases hm
  | cons u us =>
   refine bindC hm fun x σ1 e h1 => bindC h1 fun fr1 σ2 h2 h3 => ?_
   obtain ⟨e1, e2⟩ := ih h3
   cases q : nameE t with
   | none => rw [q] at e; cases e
   | some y =>
    obtain ⟨p, rfl⟩ := nameE_inv q
    refine ⟨congrArg (· + 1) e1, ?_⟩
    show List.findIdx? (·.1) ((false, _) :: assignEach ts env) = none
    rw [List.findIdx?_cons, e2]; rfl
theorem extBut_ext {h h' : Heap} (x : Heap.ExtBut h.objs.size h h') : Ext h h' := fun b o e => x b o (fun q => by subst q; exact absurd (Heap.lt_size e) (Nat.lt_irrefl _)) e
theorem asgTup_tel {ts : List Expr} {k : Nat} {us : List V} (hh : A.handled = none) (F : FrRel w κ fr env bs) (hb : fr.base = base) (r : Rel w κ (.tup us) v') : TelF w base κ ((env.locals, .ns bs) :: rest) (FrF w env rest base) σ (asgNames ts us fr) (wpAny (model prg w) A (assign (.Tuple ts k pos) env v')) := fun a σ' hm hbl s E Q S kk => by
 obtain ⟨y, ys, rfl, f, rr⟩ := r
 obtain ⟨e1, e2⟩ := asgNames_each (env := env) ts hm
 exact assign_Tuple_tuple hh ((f.mono S.keep).tup) (by rw [List.size_toArray, rr.len]; exact e1) e2 fun h' he => asgNames_tel ts F hb rr _ _ hm hbl { s with heap := h' } _ _ ⟨S.keeps (extBut_ext he), S.tk⟩ kk
theorem FrF.of (F : FrRel w κ fr env bs) (hb : fr.base = base) : ∀ s, Sim w κ s σ ((env.locals, .ns bs) :: rest) -> FrF w env rest base κ fr () σ s := fun s S => ⟨bs, F, S, hb⟩
theorem asg_tel (I : Snd L n) (hh : A.handled = none) (T : Tp w κ.h) (O : Ok n A) {t : Expr} (F : FrRel w κ fr env bs) (hb : fr.base = base) (r : Rel w κ v v') : TelF w base κ ((env.locals, .ns bs) :: rest) (FrF w env rest base) σ (asg L t v fr) (wpAny (model prg w) A (assign t env v')) := by
 have C : Ctx' w n A κ fr env bs ((env.locals, .ns bs) :: rest) := ⟨T, O, F, .head _⟩
 subst hb
 cases t with
 | Name x p => exact .imp (storeName_tel F rfl r) fun Q E s h => wpAny_assign_Name h
 | Tuple ts k p =>
  refine .lift fun us e => ?_
  rw [tup_inv e] at r
  exact asgTup_tel hh F rfl r
 | Subscript o i p =>
  rw [assign_Subscript]
  exact .imp (.bind (I.e C σ) fun k1 r1 => .bind (I.e (C.mono k1) _) fun k2 r2 => .bind (setItem_tel (Rel.mono k2 _ _ r1) r2 (Rel.mono (k1.trans k2) _ _ r) _) fun k3 _ => .done () fun s S => ⟨bs, F.mono (k1.trans (k2.trans k3)), S, rfl⟩)
   fun Q E s h => wpAny_bind (wpAny_holding (wpAny_mono h (fun x s1 h => wpAny_bind (wpAny_holding (wpAny_mono h (fun y s2 h => wpAny_bind (wpAny_standAt (wpAny_bind (wpAny_holding (wpAny_mono h (fun _ s3 h => wpAny_release h) fun _ _ h => h))))) fun _ _ h => h))) fun _ _ h => h))
 | Attribute o nm p =>
  rw [assign_Attribute]
  exact .imp (.bind (I.e C σ) fun k1 r1 => .bind (setAtt_tel (T.mono k1.h) r1 (Rel.mono k1 _ _ r) _) fun k3 _ => .done () fun s S => ⟨bs, F.mono (k1.trans k3), S, rfl⟩)
   fun Q E s h => wpAny_bind (wpAny_holding (wpAny_mono h (fun x s1 h => wpAny_bind (wpAny_standAt (wpAny_bind (wpAny_holding (wpAny_mono h (fun _ s3 h => wpAny_release h) fun _ _ h => h))))) fun _ _ h => h))
 | _ => exact .fail
theorem callBy_inv {nm : String} {n : Nat} {e : Expr} {q : Expr × List Expr} (h : callBy nm n e = some q) : attr? q.1 = none /\ ∃ p, e = .Call q.1 q.2 [] p := by
 cases e with
 | Call f as ks p =>
  delta callBy at h
  dsimp only at h
  by_cases c : (isNamed nm f && (as.length == n && ks.isEmpty)) = true
  ·rw [if_pos c] at h
   cases h
   rw [Bool.and_eq_true, Bool.and_eq_true] at c
   obtain rfl := List.isEmpty_iff.mp c.2.2
   refine ⟨?_, p, rfl⟩
   cases f with
   | Attribute => cases c.1
   | _ => rfl
  ·rw [if_neg c] at h; cases h
 | _ => cases h
theorem isTy_con {c : Value} {T : String} (h : isTy T (.con c) = true) : c = .type T := by
 cases c with
 | type m => exact congrArg _ (eq_of_beq h)
 | _ => cases h
theorem enum_make {x : Addr} {all : List V} (hs : ListSrc w chk all x κ) (hi : LD w κ rest σ x all) : TelF w base κ rest (ItF w rest (.Tuple elts ek epos) true) σ (pure (enumV 0 all, chk)) fun Q E => wpAny (model prg w) A (PySem.call (.type "enumerate") [.ref x]) (fun y => wpAny (model prg w) A (pyIter y) Q E) E := by
 intro a σ' e hb s E Q S k
 refine hd fun P0 q0 => ?_
 cases e
 obtain ⟨l, D⟩ := S.led
 obtain ⟨xs, r, i⟩ := hi _ _ D
 refine q0 ?_
 refine call_enumerate_list (i.has D.st).list fun h' he hit hsz hk => wpAny_pyIter_enum he ?_
 refine hd fun P0 q0 => ?_
 obtain ⟨o', ho', hcl', hdt'⟩ := id hit
 refine q0 ?_
 refine k κ _ _ Kle.rfl ⟨_, ⟨D.puts h' [(s.heap.objs.size + 1, .exact { cls := .type "enumerate", data := .fields #[.none, .bool false, .ref s.heap.objs.size, rawInt (0 : Nat), .none, .none] }), (s.heap.objs.size, .flds "list_iterator" [.ref x, .int (0 : Nat) 0])] (D.st.step (ow := []) (fun b o _ e => hk b o e) ?_ ?_ ?_), S.tk⟩, yld_enum all (Nat.succ_ne_self _) all 0 κ _ hs rfl, nofun⟩ Pres.rfl
 ·intro p hp
  rcases List.mem_cons.mp hp with rfl | hp
  ·exact ⟨_, he, rfl⟩
  ·rw [List.mem_singleton.mp hp]
   exact ⟨o', ho', hcl', hdt'⟩
 ·simp
 ·intro b hb
  simp only [List.map_cons, List.map_nil, List.mem_cons, List.not_mem_nil, or_false] at hb
  rcases hb with rfl | rfl
  ·exact .inr (Nat.le_succ _)
  ·exact .inr (Nat.le_refl _)
theorem enumSrc_tel (r : Rel w κ v v') : TelF w base κ rest (ItF w rest (.Tuple elts ek epos) true) σ (enumSrc v) fun Q E => wpAny (model prg w) A (PySem.call (.type "enumerate") [v']) (fun y => wpAny (model prg w) A (pyIter y) Q E) E := by
 delta enumSrc
 cases e : v.list? with
 | some vs =>
  rw [list_inv e] at r
  refine hd fun P0 q0 => ?_
  obtain ⟨x, xs, rfl, f, rr⟩ := id r
  obtain ⟨x', e', hs⟩ := listSrc_val r
  refine q0 ?_
  cases e'
  exact enum_make hs fun _ _ _ => ⟨xs, rr, .inr f⟩
 | none =>
  refine .lift fun k e => .listAt fun vs ho => ?_
  rw [ref_inv e] at r
  refine hd fun P0 q0 => ?_
  obtain ⟨a, hk, rfl⟩ := id r
  obtain ⟨x', e', hs⟩ := listSrc_ref (vs := vs) r
  refine q0 ?_
  cases e'
  exact enum_make hs fun _ _ D => let ⟨xs, rr, m⟩ := ent_list hk ho D; ⟨xs, rr, .inl m⟩
theorem iterSrc_tel (I : Snd L n) (C : Ctx' w n A κ fr env bs rest) {e : Expr} : TelF w fr.base κ rest (fun κ r it σ s => ∃ ow, Sim w κ s σ (ow ++ rest) /\ Yld w tg r.2 it r.1 κ ow) σ (iterSrc L tg e fr) fun Q E => wpAny (model prg w) A (eval e env) (fun x => wpAny (model prg w) A (pyIter x) Q E) E := by
 have wk : ∀ {iv : Bool} {σ} {m : M (List V × Chk)} {W}, TelF w fr.base κ rest (ItF w rest tg iv) σ m W -> TelF w fr.base κ rest (fun κ r it σ s => ∃ ow, Sim w κ s σ (ow ++ rest) /\ Yld w tg r.2 it r.1 κ ow) σ m W := fun h a σ' hm hb s E Q S k => h a σ' hm hb s E Q S fun κ' b s' k1 ⟨ow, S, Y, _⟩ => k κ' b s' k1 ⟨ow, S, Y⟩
 delta iterSrc
 cases q : callBy "enumerate" 1 e with
 | none =>
  exact .bind (I.e C σ) fun k1 r1 => .guard fun c a σ' hm hb s E Q S k => itOf_tel (tg := tg) (fun h => by rw [h] at c; exact c) r1 a σ' hm hb s E Q S fun κ' b s' k1 ⟨ow, S, Y, _⟩ => k κ' b s' k1 ⟨ow, S, Y⟩
 | some r =>
  obtain ⟨hne, p, rfl⟩ := callBy_inv q
  refine wk (iv := true) (.guard fun ht => ?_)
  obtain ⟨es, ek, ep, rfl⟩ := tup_of ht
  refine st_callK (g := fun fv => isCallee fv && isTy "enumerate" fv) (k := fun _ vs => liftO (one vs) >>= fun v => enumSrc v) (W' := fun x => wpAny (model prg w) A (pyIter x)) I C hne (fun _ h => (Bool.and_eq_true_iff.mp h).1) fun k c r => .lift fun v e => ?_
  rw [one_inv e] at r
  obtain ⟨v', _, rfl, rv, rfl⟩ := r
  rw [isTy_con (Bool.and_eq_true_iff.mp c).2]
  exact enumSrc_tel rv
theorem zip_make {x1 x2 : Addr} {v1 v2 : List V} {xs ys : List Value} (f1 : Has w κ.h x1 (.list xs)) (rr1 : Rels w κ v1 xs) (f2 : Has w κ.h x2 (.list ys)) (rr2 : Rels w κ v2 ys) :
  TelF w base κ rest (ItF w rest (.Tuple elts ek epos) false) σ (pure (zipV v1 v2, noChk)) fun Q E => wpAny (model prg w) A (PySem.call (.type "zip") [.ref x1, .ref x2]) (fun y => wpAny (model prg w) A (pyIter y) Q E) E := by
 intro a σ' e hb s E Q S k
 refine hd fun P0 q0 => ?_
 cases e
 obtain ⟨l, D⟩ := S.led
 refine q0 ?_
 have g1 := f1.mono S.keep
 have g2 := f2.mono S.keep
 have l1 : @LT.lt Nat instLTNat x1 s.heap.objs.size := by obtain ⟨o, ho, _⟩ := g1; exact Heap.lt_size ho
 have l2 : @LT.lt Nat instLTNat x2 s.heap.objs.size := by obtain ⟨o, ho, _⟩ := g2; exact Heap.lt_size ho
 refine call_zip_2 g1.list g2.list fun h' hz hTI hTO h1 h2 hsz hk => wpAny_pyIter_zip hz ?_
 have ne : ∀ {a i j : Nat}, i ≠ j -> a + i ≠ a + j := fun h q => h (Nat.add_left_cancel q)
 have lt : ∀ {x a : Nat} (i : Nat), x < a -> x ≠ a + i := fun i h => Nat.ne_of_lt (Nat.lt_of_lt_of_le h (Nat.le_add_right _ i))
 have Z : ZipApart (s.heap.objs.size + 4) (s.heap.objs.size + 2) (s.heap.objs.size + 3) s.heap.objs.size (s.heap.objs.size + 1) x1 x2 := by
  constructor <;> first | exact Nat.ne_of_lt (by lia) | exact (Nat.ne_of_lt (by lia)).symm
 refine hd fun P0 q0 => ?_
 obtain ⟨o4, ho4, c4, d4⟩ := id h1
 obtain ⟨o5, ho5, c5, d5⟩ := id h2
 refine q0 ?_
 refine k κ _ _ Kle.rfl ⟨_, ⟨D.puts h' (zipOw (s.heap.objs.size + 4) (s.heap.objs.size + 2) (s.heap.objs.size + 3) s.heap.objs.size (s.heap.objs.size + 1) x1 x2 0 .none .none) (D.st.step (ow := []) (fun b o _ e => hk b o e) (fun p hp => ?_) (zip_nd Z) fun b hb => ?_), S.tk⟩, yld_zip Z _ _ 0 κ _ _ f1 f2 rr1 rr2 rfl rfl, fun _ => slf_of (fun hx q => wpAny_pyIter_zip hx.get q) _⟩ Pres.rfl
 ·simp only [zipOw, List.mem_cons, List.not_mem_nil, or_false] at hp
  rcases hp with rfl | rfl | rfl | rfl | rfl
  ·exact ⟨_, hz, rfl⟩
  ·exact ⟨_, hTI, rfl⟩
  ·exact ⟨_, hTO, rfl⟩
  ·exact ⟨o4, ho4, c4, d4⟩
  ·exact ⟨o5, ho5, c5, d5⟩
 ·simp only [zipOw, List.map_cons, List.map_nil, List.mem_cons, List.not_mem_nil, or_false] at hb
  rcases hb with rfl | rfl | rfl | rfl | rfl
  ·exact .inr (Nat.le_add_right _ _)
  ·exact .inr (Nat.le_add_right _ _)
  ·exact .inr (Nat.le_add_right _ _)
  ·exact .inr (Nat.le_refl _)
  ·exact .inr (Nat.le_add_right _ _)
theorem iterSrcC_tel (I : Snd L n) (C : Ctx' w n A κ fr env bs rest) {e : Expr} : TelF w fr.base κ rest (ItF w rest tg false) σ (iterSrcC L tg e fr) fun Q E => wpAny (model prg w) A (eval e env) (fun x => wpAny (model prg w) A (pyIter x) Q E) E := by
 delta iterSrcC
 cases q : callBy "zip" 2 e with
 | none =>
  refine .bind (I.e C σ) fun {_ v _ _} k1 r1 => .guard fun c => ?_
  rw [Bool.not_eq_true'] at c
  exact c ▸ itOf_tel (fun h => by cases v with
   | view => cases c
   | _ => cases h) r1
 | some r =>
  refine hd fun P0 q0 => ?_
  obtain ⟨hne, p, rfl⟩ := callBy_inv q
  refine q0 ?_
  refine .guard fun ht => ?_
  refine hd fun P0 q0 => ?_
  obtain ⟨es, ek, ep, rfl⟩ := tup_of ht
  refine q0 ?_
  refine st_callK (g := fun fv => isCallee fv && isTy "zip" fv) (k := fun _ vs => liftO (two vs) >>= fun p => listV p.1 >>= fun x => listV p.2 >>= fun y => pure (zipV x y, noChk)) (W' := fun x => wpAny (model prg w) A (pyIter x)) I C hne (fun _ h => (Bool.and_eq_true_iff.mp h).1) fun k c r => .lift fun v e => .lift fun x e1 => .lift fun y e2 => ?_
  rw [two_inv e, list_inv e1, list_inv e2] at r
  refine hd fun P0 q0 => ?_
  obtain ⟨_, _, rfl, ⟨x1, xs, rfl, f1, r1⟩, _, _, rfl, ⟨x2, ys, rfl, f2, r2⟩, rfl⟩ := r
  refine q0 ?_
  rw [isTy_con (Bool.and_eq_true_iff.mp c).2]
  exact zip_make f1 r1 f2 r2
end
noncomputable def turnOf (e : Expr) (g : Comprehension) (nxt : Option Comprehension) (emit : Sem Unit) (d : Nat) (it acc : Value) (env : Env) : Sem Fin := do
 standAt g.iter.pos
 match <- pyNext it with
 | none => pure (.done .next)
 | some v =>
  letOwnedTupleGo g.target it v
  assign g.target env v
  let mut ok := true
  for c in g.ifs do
   if ok then ok <- isTrue c env (eval c env)
  if ok then
   match nxt with
   | some g' =>
    let x <- eval g'.iter env
    standAt g'.iter.pos
    let x <- foldedSetIterable g'.iter env x
    let _ <- runOwn (.compStart e (d + 1) (<- holding [x] (pyIter x)) acc env) env
   | none => emit
  again (.compLoop e d it acc env)
theorem sync_at {gens : List Comprehension} {d : Nat} {g : Comprehension} (hg : gens[d]? = some g) (ha : gens.all (fun g => g.is_async == 0) = true) : g.is_async = 0 := eq_of_beq (List.all_eq_true.mp ha g (List.mem_of_getElem? hg))
theorem turn_list {elt : Expr} {gens : List Comprehension} {sc : Scope} {pos : Pos} {d : Nat} {g : Comprehension} {it acc : Value} {env : Env} (hg : gens[d]? = some g) (ha : gens.all (fun g => g.is_async == 0) = true) :
  compTurn (.ListComp elt gens sc pos) d it acc env = turnOf (.ListComp elt gens sc pos) g gens[d + 1]? (do let _ <- call (.builtin "list.append") [acc, <- eval elt env]) d it acc env := by
 have h1 := sync_at hg ha
 unfold compTurn turnOf
 dsimp only
 rw [hg]
 dsimp only
 cases hn : gens[d + 1]? with
 | none => simp only [h1]; rfl
 | some g' =>
  have h2 := sync_at hn ha
  simp only [h1, h2]; rfl
theorem turn_dict {ke ve : Expr} {gens : List Comprehension} {sc : Scope} {pos : Pos} {d : Nat} {g : Comprehension} {it : Value} {D : Addr} {env : Env} (hg : gens[d]? = some g) (ha : gens.all (fun g => g.is_async == 0) = true) :
  compTurn (.DictComp ke ve gens sc pos) d it (.ref D) env = turnOf (.DictComp ke ve gens sc pos) g gens[d + 1]? (do
    let kv <- eval ke env
    let vv <- holding [kv] (eval ve env)
    standAt { ke.pos with endLine := ve.pos.endLine, endCol := ve.pos.endCol }
    holding [kv, vv] (dictSet D kv vv)) d it (.ref D) env := by
 have h1 := sync_at hg ha
 unfold compTurn turnOf
 dsimp only
 rw [hg]
 dsimp only
 cases hn : gens[d + 1]? with
 | none => simp only [h1]; rfl
 | some g' =>
  have h2 := sync_at hn ha
  simp only [h1, h2]; rfl
section
variable {w : World} {A : Around} {base n : Nat} {κ : Kw} {rest l ow ow' : List (Addr × Sh)} {σ σ' : List O} {h h' h₀ : Heap} {v a b : V} {v' a' b' : Value} {vs : List V} {vs' : List Value} {s : Shared} {E : Value -> Shared -> Prop} {fr fr' : Fr} {env : Env} {bs : List (Str × Value)} {L : Lv} {p pos : Pos} {x : Addr} {elts : List Expr} {ek : Nat} {epos : Pos} {chk : Chk} {tg : Expr} {R : Result -> Shared -> Prop}
inductive IsComp : Expr -> Prop
 | list (elt gens sc pos) : IsComp (.ListComp elt gens sc pos)
 | dict (k v gens sc pos) : IsComp (.DictComp k v gens sc pos)
theorem compStart_any {e : Expr} {d : Nat} {g : Comprehension} {it acc : Value} (he : IsComp e) (hg : (clausesOf e)[d]? = some g) (ha : g.is_async = 0)
  (h0 : codeAny (model prg w) A (.compLoop e d it acc env) R s)
  (h : wpAny (model prg w) A (pyIter it) (fun it' s' => codeAny (model prg w) A (.compLoop e d it' acc env) R s') (notedBy (model prg w) A env fun x s' => R (.error x) s') s) :
  codeAny (model prg w) A (.compStart e d it acc env) R s := by
 cases he
 all_goals
  refine codeAny_of_tree ?_
  show wpAny _ A ((compStart _ d it acc env).onRaise (fun x => do noteFrame x env; standAt theWindowsPlace)) _ _ s
  refine wpAny_notedAt ?_
  unfold compStart
  rw [hg]
  simp only [Option.elim, ha]
  show wpAny _ _ (ask >>= _) _ _ s
  refine wpAny_bind (wpAny_askSetting (wpAny_ite ?_))
  split
  ·first
    | exact wpAny_bind (wpAny_pure (wpAny_pure (And.intro rfl h0)))
    | exact wpAny_pure (And.intro rfl h0)
  ·refine wpAny_bind (wpAny_rule ?_)
   first
    | exact wpAny_bind (wpAny_standAt (wpAny_bind (wpAny_mono h (fun it' s' h' => wpAny_pure (And.intro rfl h')) fun _ _ x => x)))
    | (show wpAny _ _ (standAt g.iter.pos >>= _) _ _ s; exact wpAny_bind (wpAny_standAt (wpAny_bind (wpAny_mono h (fun it' s' h' => wpAny_pure (And.intro rfl h')) fun _ _ x => x))))
noncomputable def NxtW (w : World) (A : Around) (e : Expr) (d : Nat) (acc : Value) (env : Env) (nxt : Option Comprehension) (emit : Sem Unit) : Tr Unit := fun Q E s =>
 match nxt with
 | some g' => wpAny (model prg w) A (eval g'.iter env) (fun x s₄ => wpAny (model prg w) A (pyIter x) (fun it' s₅ => codeAny (model prg w) A (.compStart e (d + 1) it' acc env) (fun r s₆ => match r with | .ok _ => Q () s₆ | .error _ => False) s₅) E s₄) E s
 | none => wpAny (model prg w) A emit Q E s
noncomputable def testsW (w : World) (A : Around) (ifs : List Expr) (env : Env) : Tr Bool := wpAny (model prg w) A (forIn ifs true fun c r => if r = true then do let ok <- PySem.isTrue c env (eval c env); pure (ForInStep.yield ok) else pure (ForInStep.yield r))
theorem compLoop_any {e : Expr} {d : Nat} {g : Comprehension} {nxt : Option Comprehension} {emit : Sem Unit} {it acc : Value} (he : IsComp e)
  (ht : compTurn e d it acc env = turnOf e g nxt emit d it acc env) (hs : ∀ g', nxt = some g' -> ∀ x, foldedSetIterable g'.iter env x = pure x) (I : Nat -> Shared -> Prop)
  (turn : ∀ n s E, I n s -> wpAny (model prg w) A (pyNext it) (fun r s₁ => match r with
   | none => R (.ok .next) s₁
   | some v => wpAny (model prg w) A (letOwnedTupleGo g.target it v) (fun _ => wpAny (model prg w) A (assign g.target env v) (fun _ => testsW w A g.ifs env (fun ok s₃ =>
      if ok = true then NxtW w A e d acc env nxt emit (fun _ s₄ => ∃ m, m < n /\ I m s₄) E s₃ else ∃ m, m < n /\ I m s₃) E) E) E s₁) E s)
  (n : Nat) (h : I n s) : codeAny (model prg w) A (.compLoop e d it acc env) R s := by
 have main : ∀ n s, I n s -> wpAny (model prg w) A ((compTurn e d it acc env).onRaise (fun x => do noteFrame x env; theTreesLotGoes x)) (fun fin s' => match fin with | .done f => R (.ok f) s' | .again c' => c' = .compLoop e d it acc env /\ ∃ m, m < n /\ I m s') (fun e s' => R (.error e) s') s := by
  intro n s hI
  refine wpAny_noted ?_
  rw [ht]
  unfold turnOf
  refine wpAny_bind (wpAny_standAt (wpAny_bind (wpAny_mono (turn n s _ hI) (fun r s₁ h₁ => ?_) fun _ _ h' => h')))
  cases r with
  | none => exact wpAny_pure h₁
  | some v =>
   refine wpAny_bind (wpAny_mono h₁ (fun _ s₁' h₁' => wpAny_bind (wpAny_mono h₁' (fun _ s₂ h₂ => wpAny_bind (wpAny_mono h₂ (fun ok s₃ h₃ => ?_) fun _ _ h' => h')) fun _ _ h' => h')) fun _ _ h' => h')
   cases ok with
   | false => exact wpAny_pure ⟨rfl, h₃⟩
   | true =>
    rw [if_pos rfl] at h₃ ⊢
    cases nxt with
    | none => exact wpAny_bind (wpAny_mono h₃ (fun _ s₄ h₄ => wpAny_pure ⟨rfl, h₄⟩) fun _ _ h' => h')
    | some g' =>
     refine wpAny_bind (wpAny_mono h₃ (fun x s₄ h₄ => wpAny_bind (wpAny_standAt (wpAny_bind (wpAny_of_eq (hs g' rfl x) (wpAny_bind (wpAny_holding (wpAny_mono h₄ (fun it' s₅ h₅ => ?_) fun _ _ h' => h'))))))) fun _ _ h' => h')
     refine wpAny_bind (wpAny_runOwn (h := none) (codeAny_mono h₅ fun r s₆ h₆ => ?_) nofun)
     cases r with
     | ok f => exact wpAny_pure ⟨rfl, h₆⟩
     | error e => exact h₆.elim
 cases he with
 | list => exact codeAny_loop rfl I main n h
 | dict => exact codeAny_loop rfl I main n h
structure Sub (fr fr' : Fr) : Prop where
 scope : fr'.scope = fr.scope
 cells : fr'.cells = fr.cells
 base : fr'.base = fr.base
 loc : ∀ y u, fr.loc.lookup y = some (some u) -> fr'.loc.lookup y = some (some u)
theorem Sub.rfl' {fr : Fr} : Sub fr fr := ⟨rfl, rfl, rfl, fun _ _ h => h⟩
theorem Sub.weak {κ : Kw} {bs : List (Str × Value)} (u : Sub fr fr') (F : FrRel w κ fr' env bs) : FrRel w κ fr env bs :=
 ⟨F.scope.trans u.scope, by rw [<- u.scope]; exact F.kind, F.globals, F.builtins, by rw [<- u.cells]; exact F.cells, fun y v h => F.loc y v (u.loc y v h)⟩
theorem asg1_sub {xn : Str} {fr0 : Fr} (hf : (fr0.kind xn != some .local || isFree (fr0.loc.lookup xn)) = true) (u : Sub fr0 fr) {r} (hm : asg1 xn v fr σ = some r) : Sub fr0 r.1 := bindC hm fun c σ1 e h1 => by
 have hk : fr.kind xn = fr0.kind xn := by unfold Fr.kind; rw [u.scope]
 rw [<- hk] at hf
 cases q : fr.kind xn with
 | none => rw [q] at e; cases e
 | some c0 =>
  rw [q] at e hf
  cases e
  cases c with
  | «local» =>
   cases h1
   refine ⟨u.scope, u.cells, u.base, fun y w0 hy => ?_⟩
   show (setL xn v fr.loc).lookup y = _
   rw [setL_lk]
   by_cases e : y = xn
   ·subst e; rw [hy] at hf; cases hf
   ·rw [if_neg e]; exact u.loc y w0 hy
  | cell =>
   refine bindC h1 fun k σ1 e1 h1 => bindC h1 fun _ σ2 e2 h2 => bindC h2 fun o σ3 e3 h3 => bindC h3 fun c0 σ4 e4 h4 => ?_
   unfold putR at h4
   split at h4
   ·cases h4; exact u
   ·cases h4
  | _ => cases h1
theorem asgNames_sub {fr0 : Fr} (ts : List Expr) : ∀ {us : List V} {fr : Fr} {σ : List O} {r}, freshNames ts fr0 = true -> Sub fr0 fr -> asgNames ts us fr σ = some r -> Sub fr0 r.1 := by
 induction ts with
 | nil =>
  intro us fr σ r hf u hm
  cases us with
  | nil => cases hm; exact u
  | cons => cases hm
 | cons t ts ih =>
  intro us fr σ r hf u hm
  cases us with
  | nil => cases hm
  | cons y us =>
   have hf := Bool.and_eq_true_iff.mp (show (freshName fr0 t && freshNames ts fr0) = true from hf)
   refine bindC hm fun xn σ1 e h1 => bindC h1 fun fr1 σ2 h2 h3 => ?_
   cases q : nameE t with
   | none => rw [q] at e; cases e
   | some y =>
    rw [q] at e
    cases e
    obtain ⟨p, rfl⟩ := nameE_inv q
    exact ih hf.2 (asg1_sub hf.1 u h2) h3
theorem asgC_tel {t : Expr} (hh : A.handled = none) (F : FrRel w κ fr env bs) (hb : fr.base = base) (r : Rel w κ v v') : TelF w base κ ((env.locals, .ns bs) :: rest) (FrF w env rest base) σ (asgC t v fr) (wpAny (model prg w) A (assign t env v')) := by
 cases t with
 | Name x p => exact .guard fun _ => .imp (storeName_tel F hb r) fun Q E s h => wpAny_assign_Name h
 | Tuple ts k p =>
  refine .guard fun _ => .lift fun us e => ?_
  rw [tup_inv e] at r
  exact asgTup_tel hh F hb r
 | _ => exact .fail
theorem asgC_sub {t : Expr} {r} (hm : asgC t v fr σ = some r) : Sub fr r.1 := by
 cases t with
 | Name x p =>
  refine bindC hm fun _ σ1 e h1 => ?_
  cases c : freshName fr (.Name x p) with
  | false => rw [c] at e; cases e
  | true => exact asg1_sub c Sub.rfl' h1
 | Tuple ts k p =>
  refine bindC hm fun _ σ1 e h1 => bindC h1 fun us σ2 e2 h2 => ?_
  cases c : freshNames ts fr with
  | false => rw [c] at e; cases e
  | true => exact asgNames_sub ts c Sub.rfl' h2
 | _ => cases hm
theorem tests_tel (I : Snd L n) (ifs : List Expr) : ∀ {κ : Kw}, Ctx' w n A κ fr env bs rest -> ∀ σ, TelT w fr.base κ rest (fun _ b c => c = b) σ (tests L ifs fr) (testsW w A ifs env) := by
 have skip : ∀ (l : List Expr) (s1 : Shared) (Q : Bool -> Shared -> Prop) E, Q false s1 -> wpAny (model prg w) A (forIn l false fun c r => if r = true then do let ok <- PySem.isTrue c env (eval c env); pure (ForInStep.yield ok) else pure (ForInStep.yield r)) Q E s1 := by
  intro l
  induction l with
  | nil => intro s1 Q E h; rw [List.forIn_nil]; exact wpAny_pure h
  | cons c l ih =>
   intro s1 Q E h
   rw [List.forIn_cons, if_neg (by decide)]
   exact wpAny_bind (wpAny_pure (ih s1 Q E h))
 induction ifs with
 | nil => intro κ C σ; unfold testsW; rw [List.forIn_nil]; exact .rd fun s E Q l D k => wpAny_pure (k _ s.toks rfl)
 | cons c ifs ih =>
  intro κ C σ
  refine .imp (.bind (W2 := fun b Q E s => if b = true then testsW w A ifs env Q E s else Q false s) (I.t C σ) fun k1 r1 => r1 ▸ .ite (fun c => .imp (ih (C.mono k1) _) fun Q E s h => by rw [if_pos c]; exact h) fun c => .imp (.done false rfl) fun Q E s h => by rw [if_neg c]; exact h) fun Q E s h => ?_
  unfold testsW
  rw [List.forIn_cons, if_pos rfl]
  refine wpAny_bind (wpAny_bind (wpAny_mono h (fun b s1 h => wpAny_pure ?_) fun _ _ h => h))
  cases b with
  | true => exact h
  | false => exact skip ifs s1 Q E h
end
section
variable {w : World} {A : Around} {base n : Nat} {κ : Kw} {rest l ow ow' : List (Addr × Sh)} {σ σ' : List O} {h h' h₀ : Heap} {v a b : V} {v' a' b' : Value} {vs : List V} {vs' : List Value} {s : Shared} {E : Value -> Shared -> Prop} {fr fr' : Fr} {env : Env} {bs : List (Str × Value)} {L : Lv} {p pos : Pos} {x : Addr} {chk : Chk} {tg : Expr} {R : Result -> Shared -> Prop}
 {α : Type} {e : Expr} {gens : List Comprehension} {D : Addr} {emit : Fr -> M (List α)} {emitS : Sem Unit} {AccR : Kw -> List α -> Sh -> Prop}
noncomputable def InnOk (w : World) (n : Nat) (env : Env) (D : Addr) (AccR : Kw -> List α -> Sh -> Prop) (inner : Fr -> M (List α)) (X : Tr Unit) : Prop :=
 ∀ {κ : Kw} {fr : Fr} {bs : List (Str × Value)} {σ σ' : List O} {outs done : List α} {sh : Sh} {rest : List (Addr × Sh)} {base : Nat} {s : Shared} {E : Value -> Shared -> Prop} {Q : Unit -> Shared -> Prop},
  Tp w κ.h -> FrRel w κ fr env bs -> fr.base = base -> inner fr σ = some (outs, σ') -> base <= σ.length -> AccR κ done sh -> done.length + outs.length <= lim -> Sim w κ s σ ((D, sh) :: (env.locals, .ns bs) :: rest) ->
  (∀ κ' bs' sh' s', Kle κ κ' -> AccR κ' (done ++ outs) sh' -> FrRel w κ' fr env bs' -> Sim w κ' s' σ' ((D, sh') :: (env.locals, .ns bs') :: rest) -> Pres base σ σ' -> Q () s') -> X Q E s
inductive CI (w : World) (env : Env) (tg : Expr) (chk : Chk) (it : Value) (f : V -> M (List α)) (D : Addr) (AccR : Kw -> List α -> Sh -> Prop) (rest : List (Addr × Sh)) (fr : Fr) (base : Nat) (κ₀ : Kw) (σ₀ σ' : List O) (all : List α) : Nat -> Shared -> Prop
 | mk {κ items σ outs done ow sh bs s} (k : Kle κ₀ κ) (F : FrRel w κ fr env bs) (Y : Yld w tg chk it items κ ow) (hm : turns chk f items σ = some (outs, σ')) (hb : base <= σ.length) (acc : AccR κ done sh) (cat : done ++ outs = all)
   (S : Sim w κ s σ (ow ++ (D, sh) :: (env.locals, .ns bs) :: rest)) (pr : Pres base σ₀ σ) : CI w env tg chk it f D AccR rest fr base κ₀ σ₀ σ' all items.length s
theorem turns_nil {f : V -> M (List α)} {outs : List α} (h : turns chk f [] σ = some (outs, σ')) : chk σ = true /\ outs = [] /\ σ' = σ := by
 change (if chk σ then some (([] : List α), σ) else none) = _ at h
 split at h
 ·cases h; exact ⟨by assumption, rfl, rfl⟩
 ·cases h
theorem turns_cons {f : V -> M (List α)} {outs : List α} (h : turns chk f (v :: vs) σ = some (outs, σ')) :
  chk σ = true /\ ∃ a σ₁ b, f v σ = some (a, σ₁) /\ turns chk f vs σ₁ = some (b, σ') /\ outs = a ++ b := by
 change (if chk σ then (f v >>= fun a => turns chk f vs >>= fun b => pure (a ++ b)) σ else none) = _ at h
 split at h
 ·rename_i c
  refine bindC h fun a σ₁ h1 h => bindC h fun b σ₂ h2 h => ?_
  cases h
  exact ⟨c, a, σ₁, b, h1, h2, rfl⟩
 ·cases h
theorem set_none {e : Expr} {x : Value} (h : notSet e = true) : foldedSetIterable e env x = pure x := by
 cases e with
 | Set => cases h
 | _ => rfl
theorem perm_mid {α : Type} (a : List α) (x y : α) (r : List α) : (a ++ x :: y :: r).Perm (y :: x :: (a ++ r)) := by
 refine (List.perm_middle (l₁ := a) (a := x) (l₂ := y :: r)).trans ?_
 refine (List.Perm.cons x List.perm_middle).trans (List.Perm.swap _ _ _)
theorem lim_left {x y z r : List α} {m : Nat} (h : x ++ (y ++ z) = r) (hl : r.length <= m) : x.length + y.length <= m := by
 subst h
 rw [List.length_append, List.length_append, <- Nat.add_assoc] at hl
 exact Nat.le_trans (Nat.le_add_right _ _) hl
theorem loop_tel (I : Snd L n) (OK : Ok n A) {d : Nat} {g : Comprehension} {nxt : Option Comprehension} {it : Value} (he : IsComp e) (ht : compTurn e d it (.ref D) env = turnOf e g nxt emitS d it (.ref D) env) (hs : ∀ g', nxt = some g' -> ∀ x, foldedSetIterable g'.iter env x = pure x)
  (mono : ∀ {κ κ' : Kw} {xs : List α} {sh : Sh}, Kle κ κ' -> AccR κ xs sh -> AccR κ' xs sh) {inner : Fr -> M (List α)} (hin : InnOk w n env D AccR inner (NxtW w A e d (.ref D) env nxt emitS))
  {κ : Kw} {items : List V} {outs done : List α} {sh : Sh} (T : Tp w κ.h) (F : FrRel w κ fr env bs) (hb : fr.base = base) (Y : Yld w g.target chk it items κ ow) (hm : turns chk (turn1 L g fr inner) items σ = some (outs, σ')) (hbl : base <= σ.length) (hacc : AccR κ done sh) (hlen : (done ++ outs).length <= lim)
  (S : Sim w κ s σ (ow ++ (D, sh) :: (env.locals, .ns bs) :: rest)) (hR : ∀ κ' sh' bs' s', Kle κ κ' -> AccR κ' (done ++ outs) sh' -> FrRel w κ' fr env bs' -> Sim w κ' s' σ' ((D, sh') :: (env.locals, .ns bs') :: rest) -> Pres base σ σ' -> R (.ok .next) s') :
  codeAny (model prg w) A (.compLoop e d it (.ref D) env) R s := by
 refine compLoop_any he ht hs (CI w env g.target chk it (turn1 L g fr inner) D AccR rest fr base κ σ σ' (done ++ outs)) (fun m s' E hI => ?_) items.length (.mk Kle.rfl F Y hm hbl hacc rfl S Pres.rfl)
 clear hm hbl hacc S Y F
 cases hI with
 | @mk κ1 items1 σ1 outs1 done1 ow1 sh1 bs1 _ k1 F1 Y1 hm1 hbl1 hacc1 hcat S1 p1 =>
 cases items1 with
 | nil =>
  refine hd fun P0 q0 => ?_
  obtain ⟨hc, rfl, rfl⟩ := turns_nil hm1
  refine q0 ?_
  refine Y1 κ1 A _ _ _ _ _ Kle.rfl OK.hh hc S1 fun s2 S2 => ?_
  rw [List.append_nil] at hcat
  exact hR κ1 sh1 bs1 s2 k1 (hcat ▸ hacc1) F1 S2 p1
 | cons v vs =>
  refine hd fun P0 q0 => ?_
  obtain ⟨hc, out1, σ2, outs2, h1, h2, rfl⟩ := turns_cons hm1
  refine q0 ?_
  refine Y1 κ1 A _ _ _ _ _ Kle.rfl OK.hh hc S1 fun κ2 y s2 k2 _ ry hgo => hgo _ _ fun s3 ow2 S3 Y2 => bindC h1 fun fr2 σ3 h3 h1 => bindC h1 fun tb σ4 h4 h1 => ?_
  refine asgC_tel OK.hh (F1.mono k2) hb ry _ _ h3 hbl1 s3 _ _ (S3.rPm (perm_mid _ _ _ _)) fun κ3 _ s4 k3 ⟨bs2, F2, S4, b2⟩ p4 => ?_
  have u := asgC_sub h3
  have hb3 := Nat.le_trans hbl1 p4.len
  refine tests_tel I g.ifs ⟨T.mono (k1.trans (k2.trans k3)).h, OK, F2, .head _⟩ _ _ _ h4 (b2 ▸ hb3) s4 _ _ S4 fun κ4 b4 s5 k4 e4 S5 p5 => ?_
  subst e4
  rw [b2] at p5
  have hb4 := Nat.le_trans hb3 p5.len
  have kk := k2.trans (k3.trans k4)
  cases b4 with
  | false =>
   cases h1
   exact ⟨vs.length, Nat.lt_succ_self _, .mk (k1.trans kk) (u.weak (F2.mono k4)) (Y2.mono (k3.trans k4)) h2 hb4 (mono kk hacc1) hcat (S5.rPm (perm_mid _ _ _ _).symm) (p1.trans (p4.trans p5))⟩
  | true =>
   rw [if_pos rfl]
   exact hin (T.mono (k1.trans kk).h) (F2.mono k4) b2 h1 hb4 (mono kk hacc1) (lim_left hcat hlen) (S5.rPm (List.Perm.swap _ _ _)) fun κ5 bs5 sh5 s6 k5 ha5 F5 S6 p6 =>
    ⟨vs.length, Nat.lt_succ_self _, .mk (k1.trans (kk.trans k5)) (u.weak F5) (Y2.mono (k3.trans (k4.trans k5))) h2 (Nat.le_trans hb4 p6.len) ha5 ((List.append_assoc ..).trans hcat) (S6.rPm ((List.Perm.swap _ _ _).trans (perm_mid _ _ _ _).symm)) (p1.trans (p4.trans (p5.trans p6)))⟩
structure CompK (w : World) (n : Nat) (A : Around) (env : Env) (e : Expr) (gens : List Comprehension) (D : Addr) (emit : Fr -> M (List α)) (emitS : Sem Unit) (AccR : Kw -> List α -> Sh -> Prop) : Prop where
 he : IsComp e
 hcl : clausesOf e = gens
 sync : gens.all (fun g => g.is_async == 0) = true
 turn : ∀ {d : Nat} {g : Comprehension} {it : Value}, gens[d]? = some g -> compTurn e d it (.ref D) env = turnOf e g gens[d + 1]? emitS d it (.ref D) env
 mono : ∀ {κ κ' : Kw} {xs : List α} {sh : Sh}, Kle κ κ' -> AccR κ xs sh -> AccR κ' xs sh
 emit : InnOk w n env D AccR emit (wpAny (model prg w) A emitS)
theorem compG_tel (I : Snd L n) (OK : Ok n A) (K : CompK w n A env e gens D emit emitS AccR) (gs : List Comprehension) : ∀ {g : Comprehension} {d : Nat}, gens.drop d = g :: gs ->
  ∀ {κ : Kw} {it : Value} {items : List V} {chk : Chk} {fr : Fr} {bs : List (Str × Value)} {σ σ' : List O} {outs done : List α} {sh : Sh} {ow rest : List (Addr × Sh)} {base : Nat} {s : Shared} {R : Result -> Shared -> Prop}, Tp w κ.h -> FrRel w κ fr env bs -> fr.base = base -> Yld w g.target chk it items κ ow ->
  compG L emit g gs (items, chk) fr σ = some (outs, σ') -> base <= σ.length -> AccR κ done sh -> (done ++ outs).length <= lim -> Sim w κ s σ (ow ++ (D, sh) :: (env.locals, .ns bs) :: rest) ->
  (∀ κ' sh' bs' s', Kle κ κ' -> AccR κ' (done ++ outs) sh' -> FrRel w κ' fr env bs' -> Sim w κ' s' σ' ((D, sh') :: (env.locals, .ns bs') :: rest) -> Pres base σ σ' -> R (.ok .next) s') -> codeAny (model prg w) A (.compLoop e d it (.ref D) env) R s := by
 induction gs with
 | nil =>
  intro g d hd κ it items chk fr bs σ σ' outs done sh ow rest base s R T F hb Y hm hbl hacc hlen S hR
  obtain ⟨hg, hd'⟩ := drop_get hd
  have hn : gens[d + 1]? = none := List.getElem?_eq_none (drop_end hd')
  exact loop_tel (AccR := AccR) (nxt := none) (inner := emit) I OK K.he (hn ▸ K.turn hg) nofun K.mono (fun h1 h2 h3 h4 h5 h6 h7 h8 h9 => K.emit h1 h2 h3 h4 h5 h6 h7 h8 h9) T F hb Y hm hbl hacc hlen S hR
 | cons g' gs ih =>
  intro g d hd κ it items chk fr bs σ σ' outs done sh ow rest base s R T F hb Y hm hbl hacc hlen S hR
  obtain ⟨hg, hd'⟩ := drop_get hd
  have hn := (drop_get hd').1
  refine bindC hm fun _ σ1 e1 hm => ?_
  cases hns : notSet g'.iter with
  | false => rw [hns] at e1; cases e1
  | true =>
   rw [hns] at e1
   cases e1
   refine loop_tel (AccR := AccR) (nxt := some g') (inner := fun fr' => iterSrcC L g'.target g'.iter fr' >>= fun it' => compG L emit g' gs it' fr') I OK K.he (hn ▸ K.turn hg) (fun g2 q x => by cases q; exact set_none hns) K.mono (fun {κ fr bs σ σ' outs done sh rest base s E Q} T F hb h1 hbl hacc hlen S hQ => ?_) T F hb Y hm hbl hacc hlen S hR
   refine bindC h1 fun r σ5 h5 h1 => ?_
   subst hb
   refine iterSrcC_tel (tg := g'.target) I ⟨T, OK, F, .tail _ (.head _)⟩ _ _ h5 hbl s E _ S fun κ4 it' s6 k4 ⟨ow4, S6, Y4, sf⟩ p6 => ?_
   have hb5 := Nat.le_trans hbl p6.len
   have go : ∀ R' : Result -> Shared -> Prop, (∀ s₆ : Shared, Q () s₆ -> R' (.ok .next) s₆) -> codeAny (model prg w) A (.compLoop e (d + 1) it' (.ref D) env) R' s6 := fun R' hR' =>
    ih hd' (T.mono k4.h) (F.mono k4) rfl Y4 h1 hb5 (K.mono k4 hacc) (by rw [List.length_append]; exact hlen) S6 fun κ5 sh5 bs5 s7 k5 ha5 F5 S7 p7 => hR' _ (hQ κ5 bs5 sh5 s7 (k4.trans k5) ha5 F5 S7 (p6.trans p7))
   exact compStart_any K.he (by rw [K.hcl]; exact hn) (sync_at hn K.sync) (go _ fun s7 q => q) (sf rfl κ4 A σ5 _ s6 _ _ Kle.rfl S6 (go _ fun s7 q => q))
end
section
variable {w : World} {A : Around} {base n : Nat} {κ : Kw} {rest l ow ow' : List (Addr × Sh)} {σ σ' : List O} {h h' h₀ : Heap} {v a b : V} {v' a' b' : Value} {vs : List V} {vs' : List Value} {s : Shared} {E : Value -> Shared -> Prop} {fr fr' : Fr} {env : Env} {bs : List (Str × Value)} {L : Lv} {p pos : Pos} {x : Addr} {R : Result -> Shared -> Prop}
theorem take_zip' {α β : Type} (b : Nat) : ∀ (x : List α) (y : List β), (x.zip y).take b = (x.take b).zip (y.take b) := by
 induction b with
 | zero => intro x y; rfl
 | succ b ih =>
  intro x y
  cases x with
  | nil => rfl
  | cons a x =>
   cases y with
   | nil => rfl
   | cons c y => exact congrArg _ (ih x y)
theorem Simh.cutF {b : Nat} (S : Simh w κ h σ rest) (hb : b <= σ.length) (B : Bel b σ) : ∃ h₁, Ext κ.h h₁ /\ Simh w ⟨h₁, κ.ρ.take b, κ.τ⟩ h (σ.take b) rest /\
  ∀ (k : Nat) o, b <= k -> σ[k]? = some o -> ∃ a sh, κ.ρ[k]? = some a /\ ORel w κ o sh /\ Has w h₁ a sh /\ a ≠ 1 := by
 refine hd fun P0 q0 => ?_
 obtain ⟨shs, hl, r, s⟩ := S.ex
 have e : κ.ρ.zip shs = (κ.ρ.zip shs).take b ++ (κ.ρ.zip shs).drop b := (List.take_append_drop b _).symm
 have s2 : St w κ.h h ((κ.ρ.zip shs).drop b ++ ((κ.ρ.zip shs).take b ++ rest)) := s.perm (by
  rw [<- List.append_assoc]
  refine List.Perm.append_right _ ?_
  conv => lhs; rw [e]
  exact List.perm_append_comm)
 obtain ⟨h₁, x, s3, f⟩ := St.freeze s2
 refine q0 ?_
 refine ⟨h₁, x, ⟨⟨shs.take b, by simp [hl], ?_, ?_⟩⟩, fun k o hk e => ?_⟩
 ·refine (r.take b).imp fun k o sh e ro => ?_
  rw [List.getElem?_take] at e
  split at e
  ·rename_i hk
   exact ORel.mono (Kle.ext x) (ORel.cut ro (B k o hk e))
  ·cases e
 ·show St w h₁ h ((κ.ρ.take b).zip (shs.take b) ++ rest)
  rw [<- take_zip']; exact s3
 ·obtain ⟨sh, e2, ro⟩ := r.get e
  have hk' : k < κ.ρ.length := by rw [hl]; exact (List.getElem?_eq_some_iff.mp e).1
  have e1 : κ.ρ[k]? = some κ.ρ[k] := List.getElem?_eq_getElem hk'
  have hm : (κ.ρ[k], sh) ∈ (κ.ρ.zip shs).drop b := by
   have : ((κ.ρ.zip shs).drop b)[k - b]? = some (κ.ρ[k], sh) := by
    rw [List.getElem?_drop, show b + (k - b) = k by lia, List.getElem?_zip_eq_some]
    exact ⟨e1, e2⟩
   exact List.mem_of_getElem? this
  exact ⟨_, sh, e1, ro, f _ hm, s2.pos _ (List.mem_append_left _ hm)⟩
theorem Kle.cut {κ₀ κ : Kw} {h₁ : Heap} {b : Nat} (k : Kle κ₀ κ) (x : Ext κ.h h₁) (hb : κ₀.ρ.length = b) : Kle κ₀ ⟨h₁, κ.ρ.take b, κ.τ⟩ := by
 refine ⟨k.h.trans x, ?_, k.τ, k.os⟩
 show κ₀.ρ <+: κ.ρ.take b
 obtain ⟨t, e⟩ := k.ρ
 rw [<- e, List.take_append_of_le_length (by lia), List.take_of_length_le (by lia)]
 exact List.prefix_rfl
theorem bel_of (S : Simh w κ h σ rest) : Bel σ.length σ := fun _ _ _ e => S.bel e
theorem Simh.cut {b : Nat} (S : Simh w κ h σ rest) (hb : b <= σ.length) (B : Bel b σ) : Simh w ⟨κ.h, κ.ρ.take b, κ.τ⟩ h (σ.take b) rest := by
 refine hd fun P0 q0 => ?_
 obtain ⟨shs, hl, r, s⟩ := S.ex
 refine q0 ?_
 refine ⟨⟨shs.take b, by rw [List.length_take, List.length_take, hl], (r.take b).imp fun k o sh e ro => ?_, ?_⟩⟩
 ·rw [List.getElem?_take] at e
  split at e
  ·rename_i hk; exact ORel.cut ro (B k o hk e)
  ·cases e
 ·show St w κ.h h ((κ.ρ.take b).zip (shs.take b) ++ rest)
  rw [<- take_zip']
  exact s.sub (fun p hp => (List.mem_append.mp hp).elim (fun q => List.mem_append_left _ (List.mem_of_mem_take q)) fun q => List.mem_append_right _ q) (List.Nodup.sublist (((List.take_sublist _ _).append_right _).map _) s.nd)
theorem Pres.cut {σ₁ : List O} {b : Nat} (p : Pres base σ σ₁) (q : Pres b σ₁ σ') (hb : base <= b) (hl : σ₁.length <= b ∨ b = σ₁.length) : Pres base σ (σ'.take σ₁.length) := by
 refine ⟨?_, fun c hc hl hb2 k o hk e => ?_⟩
 ·rw [List.length_take, Nat.min_eq_left q.len]; exact p.len
 ·rw [List.getElem?_take] at e
  split at e
  ·exact q.bel c (Nat.le_trans hc hb) (Nat.le_trans hl p.len) (p.bel c hc hl hb2) k o hk e
  ·cases e
noncomputable def CellsR (κ : Kw) : List (Str × Nat) -> List (Str × Addr) -> Prop
 | [], cs' => cs' = []
 | (x, k) :: cs, cs' => ∃ a r, cs' = (x, a) :: r /\ κ.ρ[k]? = some a /\ CellsR κ cs r
theorem CellsR.mono {κ' : Kw} (k : Kle κ κ') {cs : List (Str × Nat)} : ∀ {cs' : List (Str × Addr)}, CellsR κ cs cs' -> CellsR κ' cs cs' := by
 induction cs with
 | nil => exact fun h => h
 | cons p r ih => exact fun ⟨a, r, e, h, t⟩ => ⟨a, r, e, k.get h, ih t⟩
theorem CellsR.look {x : Str} {k : Nat} {cs : List (Str × Nat)} : ∀ {cs' : List (Str × Addr)}, CellsR κ cs cs' -> cs.lookup x = some k -> ∃ a, κ.ρ[k]? = some a /\ cs'.lookup x = some a := by
 induction cs with
 | nil => exact fun _ => nofun
 | cons p r ih =>
  rintro _ ⟨a, r', rfl, hk, t⟩ h
  rw [lookup_cons'] at h ⊢
  by_cases q : p.1 = x
  ·rw [if_pos q] at h ⊢; cases h; exact ⟨a, hk, rfl⟩
  ·rw [if_neg q] at h ⊢; exact ih t h
theorem cells_tel (f : Str × NameKind -> List (Str × Addr) -> Sem (ForInStep (List (Str × Addr))))
  (hf : ∀ name kind cells, f (name, kind) cells = if kind == .cell then (do let a <- PySem.alloc { cls := .type "cell", data := .cell none }; pure (.yield ((name, a) :: cells))) else pure (.yield cells))
  (names : List (Str × NameKind)) : ∀ {κ : Kw} {acc : List (Str × Nat)} {acc' : List (Str × Addr)}, CellsR κ acc acc' -> Tel w A base κ rest CellsR (mkCells names acc) (forIn names acc' f) := by
 induction names with
 | nil => intro κ acc acc' hc σ; rw [List.forIn_nil]; exact .rd fun s E Q l D k => wpAny_pure (k _ s.toks hc)
 | cons p r ih =>
  intro κ acc acc' hc σ
  obtain ⟨x, k⟩ := p
  rw [List.forIn_cons, hf, mkCells_c]
  by_cases q : (k == NameKind.cell) = true
  ·rw [if_pos q, if_pos q]
   intro a σ' hm hb s E Q S kk
   obtain ⟨l, D⟩ := S.led
   have S2 := D.alloc _ _ (.cell none) (.cell none) rfl (D.st.push (x := .cell none) (o := { cls := .type "cell", data := .cell none }) rfl rfl)
   refine wpAny_bind (wpAny_bind (wpAny_alloc (wpAny_pure ?_)))
   exact ih (acc := (x, σ.length) :: acc) ⟨_, _, rfl, by rw [<- S.len]; exact List.getElem?_concat_length, hc.mono Kle.push⟩ _ _ _ hm (Nat.le_trans hb (Pres.alloc (b := base) _).len) _ E Q ⟨S2, S.tk.same rfl⟩ fun κ' cs' s' k' hc' S' p' => kk κ' cs' s' (Kle.push.trans k') hc' S' ((Pres.alloc _).trans p')
  ·rw [if_neg q, if_neg q]
   exact .imp (ih hc σ) fun Q E s h => wpAny_bind (wpAny_pure h)
theorem locals_none (names : List (Str × NameKind)) (x : Str) (u : V) : (locals names).lookup x ≠ some (some u) := by
 induction names with
 | nil => nofun
 | cons p r ih =>
  obtain ⟨y, k⟩ := p
  rw [locals_c]
  split
  ·rw [lookup_cons']
   split
   ·nofun
   ·exact ih
  ·exact ih
theorem params_tel (f : Str × Value -> PUnit -> Sem (ForInStep PUnit)) (hf : ∀ x u, f x u = (do storeName env x.1 x.2; pure (.yield ⟨⟩))) (ps : List Str) : ∀ {us : List V} {us' : List Value} {fr : Fr} {bs : List (Str × Value)} {κ : Kw} {σ : List O},
  FrRel w κ fr env bs -> fr.base = base -> Rels w κ us us' -> TelF w base κ ((env.locals, .ns bs) :: rest) (FrF w env rest base) σ (asgParams ps us fr) (wpAny (model prg w) A (forIn (ps.zip us') PUnit.unit f)) := by
 induction ps with
 | nil =>
  intro us us' fr bs κ σ F hb r
  rw [List.zip_nil_left, List.forIn_nil]
  exact .guard fun _ => .imp (.done () (FrF.of F hb)) fun Q E s h => wpAny_pure h
 | cons x ps ih =>
  intro us us' fr bs κ σ F hb r
  cases us with
  | nil => exact .fail
  | cons u us =>
   obtain ⟨u', r', rfl, ru, rt⟩ := r
   rw [List.zip_cons_cons, List.forIn_cons, hf]
   exact .imp (.frm (storeName_tel F hb ru) fun k1 F1 b1 _ => ih F1 b1 (Rels.mono k1 _ _ rt)) fun Q E s h => wpAny_bind (wpAny_bind (wpAny_mono h (fun _ s h => wpAny_pure h) fun _ _ h => h))
theorem newEnv_tel {scope : Scope} {cl : List (Str × Nat)} {closure : List (Str × Addr)} {ps : List Str} {args : List V} {args' : List Value} {qual : Str} {func : Option Addr} {code : Value} {around : Option Env} {builtins : Addr}
  (hk : scope.kind = .function) (hb : builtins = builtinsNs) (ha : ∀ o, around = some o -> o.builtins = builtinsNs) (hc : CellsR κ cl closure) (r : Rels w κ args args') :
  TelF w base κ rest (fun κ' fr env' σ s => ∃ (N : Addr) (cs' : List (Str × Addr)), env' = newEnv scope N mainGlobals cs' qual func code around builtins /\ FrF w env' rest base κ' fr () σ s) σ
   (mkCells scope.names cl >>= fun cs => asgParams ps args ⟨scope, cs, locals scope.names, base⟩) (wpAny (model prg w) A (newFunctionEnv scope mainGlobals closure (ps.zip args') qual func code around builtins)) := fun a σ' hm hbl s E Q S kk => bindC hm fun cs σ1 h1 h2 => by
 have start : ∀ (o : Obj), o.isFreed = false -> NsObj o (fun _ => none) -> Simh w κ (s.heap.push o) σ ((s.heap.objs.size, .ns []) :: rest) := fun o hfr hns => by
  obtain ⟨l, D⟩ := S.led
  exact D.put _ _ _ (D.st.push (x := .ns []) hns hfr)
 have key : ∀ {o : Obj} {f : Str × NameKind -> List (Str × Addr) -> Sem (ForInStep (List (Str × Addr)))} {g : Env -> Str × Value -> PUnit -> Sem (ForInStep PUnit)} {ev : List (Str × Addr) -> Env}, o.isFreed = false -> NsObj o (fun _ => none) ->
   (∀ name kind cells, f (name, kind) cells = if kind == .cell then (do let a <- PySem.alloc { cls := .type "cell", data := .cell none }; pure (.yield ((name, a) :: cells))) else pure (.yield cells)) ->
   (∀ env x u, g env x u = (do storeName env x.1 x.2; pure (.yield ⟨⟩))) -> (∀ cs', ev cs' = newEnv scope s.heap.objs.size mainGlobals cs' qual func code around builtins) -> (∀ cs', (ev cs').scope = scope /\ (ev cs').globals = mainGlobals /\ (ev cs').builtins = builtinsNs /\ (ev cs').cells = cs' /\ (ev cs').locals = s.heap.objs.size) ->
   wpAny (model prg w) A (do let cs' <- forIn scope.names closure f; let _ <- forIn (ps.zip args') PUnit.unit (g (ev cs')); pure (ev cs')) Q E { s with heap := s.heap.push o } := by
  intro o f g ev ho hn hf hg he hv
  refine wpAny_bind (cells_tel (base := base) _ hf scope.names hc _ _ _ h1 hbl _ E _ ⟨start o ho hn, S.tk⟩ fun κ1 cs' s1 k1 hc1 S1 p1 => ?_)
  obtain ⟨e1, e2, e3, e4, e5⟩ := hv cs'
  refine wpAny_bind (params_tel (env := ev cs') _ (hg _) ps ⟨e1, hk, e2, e3, fun x k hl => by rw [e4]; exact hc1.look hl, fun x u hl => absurd hl (locals_none _ _ _)⟩ rfl (Rels.mono k1 _ _ r) _ _ h2 (Nat.le_trans hbl p1.len) s1 E _ (e5 ▸ S1)
   fun κ2 _ s2 k2 f2 p2 => wpAny_pure (kk κ2 _ s2 (k1.trans k2) ⟨_, cs', he cs', f2⟩ (p1.trans p2)))
 cases around with
 | none =>
  simp only [newFunctionEnv, Option.isSome_none, Bool.false_eq_true, if_false]
  exact wpAny_bind (wpAny_alloc (key rfl ⟨#[], _, rfl, by intro e he; simp at he, fun _ => rfl⟩ (fun name kind cells => by cases kind == NameKind.cell <;> simp) (fun _ _ _ => rfl) (fun _ => rfl) fun _ => ⟨rfl, rfl, hb, rfl, rfl⟩))
 | some o =>
  simp only [newFunctionEnv, Option.isSome_some, if_true]
  exact wpAny_bind (wpAny_alloc (key rfl ⟨#[], _, rfl, by intro e he; simp at he, fun _ => rfl⟩ (fun name kind cells => by cases kind == NameKind.cell <;> simp) (fun _ _ _ => rfl) (fun _ => rfl) fun _ => ⟨rfl, rfl, ha o rfl, rfl, rfl⟩))
theorem taken_clos (F : FrRel w κ fr env bs) (f : Str × NameKind -> List (Str × Addr) -> Sem (ForInStep (List (Str × Addr))))
  (hf : ∀ name kind cs, f (name, kind) cs = if kind == .free then (do let a <- cellOf env name; pure (.yield ((name, a) :: cs))) else pure (.yield cs)) (names : List (Str × NameKind)) :
  ∀ {acc cl : List (Str × Nat)} {acc' : List (Str × Addr)}, CellsR κ acc acc' -> takenC fr names acc = some cl -> ∃ cl', CellsR κ cl cl' /\ forIn names acc' f = pure cl' := by
 induction names with
 | nil =>
  intro acc cl acc' hc hm
  cases hm
  exact ⟨acc', hc, by rw [List.forIn_nil]⟩
 | cons p r ih =>
  intro acc cl acc' hc hm
  obtain ⟨x, k⟩ := p
  rw [takenC_c] at hm
  rw [List.forIn_cons, hf]
  by_cases hk : (k == NameKind.free) = true
  ·rw [if_pos hk] at hm ⊢
   refine hd fun P0 q0 => ?_
   obtain ⟨j, q, hm⟩ := Option.bind_eq_some_iff.mp hm
   obtain ⟨a, ha, hl⟩ := F.cells x j q
   obtain ⟨cl', hcl, e⟩ := ih (acc := (x, j) :: acc) (acc' := (x, a) :: acc') ⟨_, _, rfl, ha, hc⟩ hm
   refine q0 ?_
   refine ⟨cl', hcl, ?_⟩
   unfold cellOf
   rw [hl]
   exact e
  ·rw [if_neg hk] at hm ⊢
   exact ih hc hm
theorem closure_tel (F : FrRel w κ fr env bs) {sc : Scope} {cl : List (Str × Nat)} (hm : takenC fr sc.names [] = some cl) : ∃ cl', CellsR κ cl cl' /\ closureFor sc env = pure cl' := by
 unfold closureFor
 obtain ⟨cl', hcl, e⟩ := taken_clos F (fun x cs => match x with | (name, kind) => if kind == NameKind.free then (do let a <- cellOf env name; pure (.yield ((name, a) :: cs))) else pure (.yield cs)) (fun _ _ _ => rfl) sc.names (acc := []) (acc' := []) rfl hm
 refine ⟨cl', hcl, ?_⟩
 have e2 : forIn sc.names ([] : List (Str × Addr)) (fun x cs => match x with | (name, kind) => if kind == NameKind.free then (do let a <- cellOf env name; pure (ForInStep.yield ((name, a) :: cs))) else pure (ForInStep.yield cs)) = pure cl' := e
 first
  | (simp only []; rw [e2]; rfl)
  | (rw [e2]; rfl)
theorem relab_eq (F : FrRel w κ fr env bs) (sc : Scope) : relabel sc env = relab sc fr := by
 unfold relabel relab
 rw [F.scope]
 congr 1
 apply List.map_congr_left
 intro x _
 obtain ⟨nm, k⟩ := x
 show (if (k == NameKind.free && fr.scope.kind == .function && env.kindOf nm == some .cell) = true then _ else _) = _
 rw [F.kindOf]
theorem compV_inv {α : Type} {g : Comprehension} {gs : List Comprehension} {sc : Scope} {emit : Fr -> M (List α)} {keep : Bool} {ok : List α -> Bool} {outs : List α} {P : Prop} (hm : compV L keep ok emit (g :: gs) sc fr σ = some (outs, σ'))
  (kk : ∀ r σ1 cl cs σ2 σ3, notSet g.iter = true -> (g :: gs).all (fun g => g.is_async == 0) = true -> sc.kind = .function -> (sc.names.all fun x => x.2 != .local || sc.names.lookup x.1 == some .local) = true -> iterSrcC L g.target g.iter fr σ = some (r, σ1) ->
   takenC fr sc.names [] = some cl -> mkCells sc.names cl σ1 = some (cs, σ2) -> compG L emit g gs r ⟨relab sc fr, cs, locals sc.names, if keep then fr.base else σ1.length⟩ σ2 = some (outs, σ3) -> outs.length <= lim ->
   ((keep = true /\ σ' = σ3) ∨ (keep = false /\ ok outs = true /\ σ' = σ3.take σ1.length)) -> P) : P := by
 refine bindG hm fun hc hm1 => bindC hm1 fun r σ1 q1 hm2 => bindL hm2 fun cl q2 hm3 => bindC hm3 fun cs σ2 q3 hm4 => bindC hm4 fun outs' σ3 q4 hm5 => ?_
 clear hm hm1 hm2 hm3 hm4
 rw [Bool.and_eq_true, Bool.and_eq_true, Bool.and_eq_true] at hc
 obtain ⟨⟨⟨hns, hsync⟩, hkd⟩, hnm⟩ := hc
 change (if outs'.length <= lim then (if keep then some (outs', σ3) else if ok outs' then some (outs', σ3.take σ1.length) else none) else none) = _ at hm5
 split at hm5
 case isFalse => cases hm5
 rename_i hl
 cases keep with
 | true => cases hm5; exact kk r σ1 cl cs σ2 _ hns hsync (eq_of_beq hkd) hnm q1 q2 q3 q4 hl (.inl ⟨rfl, rfl⟩)
 | false =>
  cases hko : ok outs' with
  | true => rw [hko] at hm5; cases hm5; exact kk r σ1 cl cs σ2 σ3 hns hsync (eq_of_beq hkd) hnm q1 q2 q3 q4 hl (.inr ⟨rfl, hko, rfl⟩)
  | false => rw [hko] at hm5; cases hm5
theorem comp_core {α : Type} {e : Expr} {g : Comprehension} {gs : List Comprehension} {sc : Scope} {emit : Fr -> M (List α)} {emitS : Addr -> Env -> Sem Unit} {AccR : Kw -> List α -> Sh -> Prop} {keep : Bool} {ok : List α -> Bool} {outs : List α}
  {newAcc : Sem Value} {use : Option (Value -> Sem Unit)} {Q : Value -> Shared -> Prop} (I : Snd L n) (C : Ctx' w n A κ fr env bs rest) (K : ∀ D env, CompK w n A env e (g :: gs) D emit (emitS D env) AccR)
  (hnew : ∀ {κ : Kw} {σ : List O} {rest : List (Addr × Sh)} {s : Shared} {E : Value -> Shared -> Prop} {Q : Value -> Shared -> Prop}, Sim w κ s σ rest -> (∀ D sh s', AccR κ [] sh -> Sim w κ s' σ ((D, sh) :: rest) -> Q (.ref D) s') -> wpAny (model prg w) A newAcc Q E s)
  (hok : ∀ {h : Heap} {ρ : List Addr} {τ : Tau} {b : Nat} {xs : List α} {sh : Sh}, ok xs = true -> AccR ⟨h, ρ, τ⟩ xs sh -> AccR ⟨h, ρ.take b, τ⟩ xs sh)
  (hm : compV L keep ok emit (g :: gs) sc fr σ = some (outs, σ')) (hbl : fr.base <= σ.length) (S : Sim w κ s σ rest)
  (hQ : ∀ κ' sh D Cc bsC s', Kle κ κ' -> AccR κ' outs sh -> outs.length <= lim -> Sim w κ' s' σ' ((Cc, .ns bsC) :: (D, sh) :: rest) -> Pres fr.base σ σ' -> compPost (model prg w) A E use Q (.ref D) Cc (.ok .next) s') :
  wpAny (model prg w) A (comprehension e sc env pos newAcc false (eval g.iter env) use) Q E s := by
 refine compV_inv hm fun r σ1 cl cs σ2 σ3 hns hsync hkd hnm q1 q2 q3 q4 hlen hend => ?_
 refine hd fun P0 q0 => ?_
 obtain ⟨cl', hcl', hclos⟩ := closure_tel C.F q2
 refine q0 ?_
 refine wpAny_comprehension_free (cl := cl') (use := use) (K 0 env).hcl (fun x => set_none hns) hclos hkd (fun y hy hl => ?_) ?_
 ·have := List.all_eq_true.mp hnm y hy
  rw [hl] at this
  exact eq_of_beq this
 refine iterSrcC_tel (tg := g.target) I C _ _ q1 hbl s E _ S fun κ1 it s1 k1 ⟨ow, S1, Y, sf⟩ p1 => hnew S1 fun D sh0 s2 ha0 S2 => ?_
 have hbl1 := Nat.le_trans hbl p1.len
 rw [C.F.globals]
 have hbase : (if keep then fr.base else σ1.length) <= σ1.length := by
  split
  ·exact hbl1
  ·exact Nat.le_refl _
 have main := newEnv_tel (w := w) (A := A) (κ := κ1) (σ := σ1) (rest := (D, sh0) :: (ow ++ rest)) (ps := []) (args := []) (args' := []) (qual := env.qual) (func := none) (code := .none) (around := some env) (builtins := builtinsNs) (scope := sc) (base := if keep then fr.base else σ1.length)
  hkd rfl (fun o ho => by cases ho; exact C.F.builtins) (hcl'.mono k1) rfl ⟨sc, cs, locals sc.names, if keep then fr.base else σ1.length⟩ σ2 (by
   change Option.bind (mkCells sc.names cl σ1) _ = _
   rw [q3]; rfl) hbase s2 E (fun cenv s₄ => codeAny (model prg w) A (.compStart e 0 it (.ref D) { cenv with scope := relabel sc env }) (compPost (model prg w) A E use Q (.ref D) cenv.locals) s₄) S2
 refine main fun κ3 env' s3 k3 hF p3 => ?_
 clear main
 refine hd fun P0 q0 => ?_
 obtain ⟨N, cs', rfl, bsC, F3, S3, hb3⟩ := hF
 refine q0 ?_
 rw [relab_eq C.F]
 have Fc : FrRel w κ3 ⟨relab sc fr, cs, locals sc.names, if keep then fr.base else σ1.length⟩ { newEnv sc N mainGlobals cs' env.qual none .none (some env) builtinsNs with scope := relab sc fr } bsC :=
  ⟨rfl, hkd, F3.globals, F3.builtins, F3.cells, F3.loc⟩
 have KD := K D { newEnv sc N mainGlobals cs' env.qual none .none (some env) builtinsNs with scope := relab sc fr }
 have S4 : Sim w κ3 s3 σ2 (ow ++ (D, sh0) :: (N, .ns bsC) :: rest) := S3.rPm (perm_mid ow (D, sh0) (N, .ns bsC) rest).symm
 have go : codeAny (model prg w) A (.compLoop e 0 it (.ref D) { newEnv sc N mainGlobals cs' env.qual none .none (some env) builtinsNs with scope := relab sc fr }) (compPost (model prg w) A E use Q (.ref D) N) s3 := by
  refine compG_tel I C.ok KD gs rfl (fr := ⟨relab sc fr, cs, locals sc.names, if keep then fr.base else σ1.length⟩) (C.T.mono (k1.trans k3).h) Fc rfl (Y.mono k3) q4 (Nat.le_trans hbase p3.len) (KD.mono k3 ha0) hlen S4 fun κ4 sh4 bs4 s5 k4 ha4 F4 S5 p4 => ?_
  rw [List.nil_append] at ha4
  have pp := p3.trans p4
  have kk := k3.trans k4
  rcases hend with ⟨rfl, rfl⟩ | ⟨rfl, hko, rfl⟩
  ·exact hQ κ4 sh4 D _ bs4 s5 (k1.trans kk) ha4 hlen (S5.rPm (List.Perm.swap _ _ _)) (p1.trans pp)
  ·have pp : Pres σ1.length σ1 σ3 := pp
   have S6 : Sim w _ s5 _ _ := ⟨Simh.cut S5.hp pp.len (pp.bel _ (Nat.le_refl _) (Nat.le_refl _) (bel_of S1.hp)), S5.tk.same rfl⟩
   exact hQ ⟨κ4.h, κ4.ρ.take σ1.length, κ4.τ⟩ sh4 D _ bs4 s5 (k1.trans (kk.cut Ext.rfl S1.len)) (hok hko ha4) hlen (S6.rPm (List.Perm.swap _ _ _)) (p1.cut pp hbl1 (.inr rfl))
 exact compStart_any KD.he (by rw [KD.hcl]; rfl) (sync_at (d := 0) rfl hsync) go (sf rfl κ3 A σ2 _ s3 _ _ k3 S4 go)
noncomputable def ListAcc (w : World) (κ : Kw) (xs : List V) (sh : Sh) : Prop := ∃ xs', sh = .list xs' /\ Rels w κ xs xs'
noncomputable def DictAcc (w : World) (κ : Kw) (xs : List (Str × V)) (sh : Sh) : Prop := ∃ kvs, sh = .dict kvs /\ Reld w κ (dictV xs []) kvs
theorem comp_list (I : Snd L n) (O : Ok n A) {elt : Expr} {gens : List Comprehension} {sc : Scope} (hs : gens.all (fun g => g.is_async == 0) = true) (D : Addr) (env : Env) :
  CompK w n A env (.ListComp elt gens sc pos) gens D (fun fr => L.ev elt fr >>= fun v => pure [v]) (do let _ <- PySem.call (.builtin "list.append") [.ref D, <- eval elt env]) (ListAcc w) where
 he := .list _ _ _ _
 hcl := rfl
 sync := hs
 turn := fun hg => turn_list hg hs
 mono := fun k ⟨xs', e, r⟩ => ⟨xs', e, Rels.mono k _ _ r⟩
 emit := fun {κ fr bs σ σ' outs done sh rest base s E Q} T F hb hm hbl ha hl S hQ => bindC hm fun v σ1 h1 h2 => by
  cases h2
  subst hb
  refine wpAny_bind (I.e ⟨T, O, F, .tail _ (.head _)⟩ σ _ _ h1 hbl s E _ S fun κ1 x1 s1 k1 r1 S1 p1 => ?_)
  obtain ⟨xs', rfl, rr⟩ := ha
  obtain ⟨l, Dl, S2⟩ := S1.pop
  exact wpAny_bind (appendS S2 .head (by rw [rr.len]; exact hl) fun h' S3 => wpAny_pure (hQ κ1 bs _ _ k1 ⟨_, rfl, (Rels.mono k1 _ _ rr).app (Rels.one r1)⟩ (F.mono k1) ⟨Dl.put _ _ _ S3, S1.tk⟩ p1))
theorem dictV_snoc (x : Str) (v : V) (xs : List (Str × V)) : ∀ acc, dictV (xs ++ [(x, v)]) acc = dset (dictV xs acc) x v := by
 induction xs with
 | nil => exact fun _ => rfl
 | cons p xs ih => exact fun acc => ih _
theorem dset_len {x : Str} {v : V} {kvs : List (Str × V)} : (dset kvs x v).length <= kvs.length + 1 := by
 unfold dset
 split
 ·rw [List.length_map]; exact Nat.le_succ _
 ·rw [List.length_append]; exact Nat.le_refl _
theorem dictV_len (xs : List (Str × V)) : ∀ acc, (dictV xs acc).length <= xs.length + acc.length := by
 induction xs with
 | nil => intro acc; rw [List.length_nil, Nat.zero_add]; exact Nat.le_refl _
 | cons p xs ih =>
  intro acc
  refine Nat.le_trans (ih _) (Nat.le_trans (Nat.add_le_add_left dset_len _) ?_)
  rw [List.length_cons, Nat.add_right_comm]
  exact Nat.le_of_eq (Nat.add_assoc ..).symm
theorem dictV_bel {b : Nat} (xs : List (Str × V)) : ∀ {acc : List (Str × V)}, V.simpled xs = true -> V.beld b acc -> V.beld b (dictV xs acc) := by
 induction xs with
 | nil => exact fun _ h => h
 | cons p xs ih =>
  intro acc hs h
  have hs := Bool.and_eq_true_iff.mp (show (V.simple p.2 && V.simpled xs) = true from hs)
  exact ih hs.2 (beld_dset (V.simple.bel hs.1) h)
theorem comp_dict (I : Snd L n) (O : Ok n A) {ke ve : Expr} {gens : List Comprehension} {sc : Scope} (hs : gens.all (fun g => g.is_async == 0) = true) (D : Addr) (env : Env) :
  CompK w n A env (.DictComp ke ve gens sc pos) gens D (fun fr => evPair L ke ve fr >>= fun q => pure [q])
   (do
    let kv <- eval ke env
    let vv <- holding [kv] (eval ve env)
    standAt { ke.pos with endLine := ve.pos.endLine, endCol := ve.pos.endCol }
    holding [kv, vv] (dictSet D kv vv)) (DictAcc w) where
 he := .dict _ _ _ _ _
 hcl := rfl
 sync := hs
 turn := fun hg => turn_dict hg hs
 mono := fun k ⟨xs', e, r⟩ => ⟨xs', e, Reld.mono k _ _ r⟩
 emit := fun {κ fr bs σ σ' outs done sh rest base s E Q} T F hb hm hbl ha hl S hQ => bindC hm fun q σ1 h1 h2 => by
  cases h2
  subst hb
  refine wpAny_bind (wpAny_mono (evPair_tel I ⟨T, O, F, .tail _ (.head _)⟩ _ _ h1 hbl s E (fun r s' => ∃ κ1, Kle κ κ1 /\ ((∃ t, r.1 = .str q.1 t) /\ Rel w κ1 q.2 r.2) /\ Sim w κ1 s' σ' ((D, sh) :: (env.locals, .ns bs) :: rest) /\ Pres fr.base σ σ') S fun κ1 b s1 k1 r1 S1 p1 => ⟨κ1, k1, r1, S1, p1⟩) (fun k' s1 h => wpAny_bind (wpAny_holding (wpAny_mono h (fun v' s2 h => ?_) fun _ _ h => h))) fun _ _ h => h)
  refine hd fun P0 q0 => ?_
  obtain ⟨κ1, k1, ⟨⟨t, ek⟩, r1⟩, S1, p1⟩ := h
  dsimp only at ek
  subst ek
  refine q0 ?_
  refine wpAny_bind (wpAny_standAt (wpAny_holding ?_))
  refine hd fun P0 q0 => ?_
  obtain ⟨kvs, rfl, rr⟩ := ha
  obtain ⟨l, Dl, S3⟩ := S1.pop
  refine q0 ?_
  refine wpAny_dictSet_pairs (strKind_is prg w q.1 t) (S3.has (.head _)).dict (fun h' hd hsb => hQ κ1 bs _ _ k1 ⟨_, rfl, ?_⟩ (F.mono k1) ⟨Dl.put _ _ _ (S3.set (x' := .dict _) .head hsb (has_dict hd)), S1.tk.succ⟩ p1) ?_
  ·rw [dictV_snoc]
   exact (Reld.mono k1 _ _ rr).set r1
  ·rw [rr.len]
   exact sz (Nat.le_trans (dictV_len done []) (Nat.le_trans (Nat.le_add_right _ _) hl))
theorem comp_drop {Q : Value -> Shared -> Prop} {Cc D : Addr} {sh : Sh} {bsC : List (Str × Value)} (S : Sim w κ s σ ((Cc, .ns bsC) :: (D, sh) :: rest)) (hQ : ∀ s', Sim w κ s' σ ((D, sh) :: rest) -> Q (.ref D) s') : compPost (model prg w) A E none Q (.ref D) Cc (.ok .next) s := by
 obtain ⟨l, Dl, S1⟩ := S.pop
 exact ⟨_, (S1.has (.head _)).ns, fun h' hs => hQ _ ⟨Dl.back _ (S1.gone .head hs.extBut), S.tk⟩⟩
theorem newL_new {κ : Kw} {σ : List O} {rest : List (Addr × Sh)} {s : Shared} {E : Value -> Shared -> Prop} {Q : Value -> Shared -> Prop} (S : Sim w κ s σ rest) (hQ : ∀ D sh s', ListAcc w κ [] sh -> Sim w κ s' σ ((D, sh) :: rest) -> Q (.ref D) s') : wpAny (model prg w) A (newList []) Q E s := by
 obtain ⟨l, D⟩ := S.led
 exact newListS D.st (by simp) fun a h' S' => hQ a _ _ ⟨[], rfl, rfl⟩ ⟨D.put _ _ _ S', S.tk⟩
theorem newD_new {κ : Kw} {σ : List O} {rest : List (Addr × Sh)} {s : Shared} {E : Value -> Shared -> Prop} {Q : Value -> Shared -> Prop} (S : Sim w κ s σ rest) (hQ : ∀ D sh s', DictAcc w κ [] sh -> Sim w κ s' σ ((D, sh) :: rest) -> Q (.ref D) s') : wpAny (model prg w) A newDict Q E s := by
 obtain ⟨l, D⟩ := S.led
 have S' := D.st.push (x := .dict []) (newDict_ok w) rfl
 first
  | exact wpAny_newDict (hQ _ _ _ ⟨[], rfl, rfl⟩ ⟨D.put _ _ _ S', S.tk⟩)
  | exact wpAny_bind (wpAny_alloc (wpAny_pure (hQ _ _ _ ⟨[], rfl, rfl⟩ ⟨D.put _ _ _ S', S.tk⟩)))
  | exact wpAny_newObj_type (hQ _ _ _ ⟨[], rfl, rfl⟩ ⟨D.put _ _ _ S', S.tk⟩)
theorem comp_sync {α : Type} {keep : Bool} {ok : List α -> Bool} {emit : Fr -> M (List α)} {g : Comprehension} {gs : List Comprehension} {sc : Scope} {r} (h : compV L keep ok emit (g :: gs) sc fr σ = some r) : (g :: gs).all (fun g => g.is_async == 0) = true /\ firstAsync (g :: gs) = false := bindC h fun _ _ e _ => by
 cases hc : (notSet g.iter && (g :: gs).all (fun g => g.is_async == 0) && sc.kind == .function && sc.names.all fun x => x.2 != .local || sc.names.lookup x.1 == some .local) with
 | false => rw [hc] at e; cases e
 | true =>
  rw [Bool.and_eq_true, Bool.and_eq_true, Bool.and_eq_true] at hc
  refine ⟨hc.1.1.2, ?_⟩
  have h0 := sync_at (d := 0) (g := g) rfl hc.1.1.2
  obtain ⟨t, i, f, as⟩ := g
  show (as != 0) = false
  rw [show as = 0 from h0]; rfl
theorem st_listcomp (I : Snd L n) (C : Ctx' w n A κ fr env bs rest) {elt : Expr} {gens : List Comprehension} {sc : Scope} : TelT w fr.base κ rest (Rel w) σ (compV L (isKeep pos) V.simples (fun fr => L.ev elt fr >>= fun v => pure [v]) gens sc fr >>= fun vs => newL pos vs) (wpAny (model prg w) A (eval (.ListComp elt gens sc pos) env)) := fun v σ' hm hbl s E Q S hQ => bindC hm fun outs σ1 q1 hm1 => by
 clear hm
 cases gens with
 | nil => cases q1
 | cons g gs =>
 obtain ⟨hs, ha⟩ := comp_sync q1
 show wpAny _ A (comprehension _ sc env _ (newList []) (firstAsync (g :: gs)) (firstIter (g :: gs) env)) _ _ s
 rw [ha]
 obtain ⟨tg, gi, gf, as⟩ := g
 refine comp_core (AccR := ListAcc w) I C (fun D env => comp_list I C.ok hs D env) newL_new (fun {h ρ τ b xs sh} ho ⟨xs', e, r⟩ => ⟨xs', e, Rels.cut _ _ r (V.simples.bel ho)⟩) q1 hbl S fun κ1 sh D Cc bsC s1 k1 ha1 hl S1 p1 => comp_drop S1 fun s2 S2 => ?_
 obtain ⟨xs', rfl, rr⟩ := ha1
 obtain ⟨l, Dl, S3⟩ := S2.pop
 obtain ⟨κ2, k2, et, r2, S4, p2⟩ := newL_fin (base := fr.base) Dl S3 rr hm1 S2.len
 exact hQ κ2 _ _ (k1.trans k2) r2 ⟨S4, S2.tk.same et⟩ (p1.trans p2)
theorem st_dictcomp (I : Snd L n) (C : Ctx' w n A κ fr env bs rest) {ke ve : Expr} {gens : List Comprehension} {sc : Scope} : TelT w fr.base κ rest (Rel w) σ (compV L (isKeep pos) V.simpled (fun fr => evPair L ke ve fr >>= fun q => pure [q]) gens sc fr >>= fun kvs => newD pos (dictV kvs [])) (wpAny (model prg w) A (eval (.DictComp ke ve gens sc pos) env)) := fun v σ' hm hbl s E Q S hQ => bindC hm fun outs σ1 q1 hm1 => by
 clear hm
 cases gens with
 | nil => cases q1
 | cons g gs =>
 obtain ⟨hs, ha⟩ := comp_sync q1
 show wpAny _ A (comprehension _ sc env _ newDict (firstAsync (g :: gs)) (firstIter (g :: gs) env)) _ _ s
 rw [ha]
 obtain ⟨tg, gi, gf, as⟩ := g
 refine comp_core (AccR := DictAcc w) I C (fun D env => comp_dict I C.ok hs D env) newD_new (fun {h ρ τ b xs sh} ho ⟨xs', e, r⟩ => ⟨xs', e, Reld.cut _ _ r (dictV_bel xs ho trivial)⟩) q1 hbl S fun κ1 sh D Cc bsC s1 k1 ha1 hl S1 p1 => comp_drop S1 fun s2 S2 => ?_
 obtain ⟨xs', rfl, rr⟩ := ha1
 obtain ⟨l, Dl, S3⟩ := S2.pop
 obtain ⟨κ2, k2, et, r2, S4, p2⟩ := newD_fin (base := fr.base) Dl S3 rr hm1 S2.len
 exact hQ κ2 _ _ (k1.trans k2) r2 ⟨S4, S2.tk.same et⟩ (p1.trans p2)
theorem asgParams_len (ps : List Str) : ∀ {us : List V} {fr : Fr} {σ : List O} {r}, asgParams ps us fr σ = some r -> us.length = ps.length := by
 induction ps with
 | nil =>
  intro us fr σ r hm
  cases us with
  | nil => rfl
  | cons => cases hm
 | cons x ps ih =>
  intro us fr σ r hm
  cases us with
  | nil => cases hm
  | cons u us => exact bindC hm fun _ _ _ h => congrArg (· + 1) (ih h)
theorem simple_cut {h₁ : Heap} {b : Nat} (hs : v.simple = true) (x : Ext κ.h h₁) (r : Rel w κ v v') : Rel w ⟨h₁, κ.ρ.take b, κ.τ⟩ v v' := Rel.cut _ _ (Rel.mono (Kle.ext x) _ _ r) (V.simple.bel hs)
noncomputable def FrzOk (w : World) (κ : Kw) (h₁ : Heap) (b : Nat) (σ : List O) : Prop := ∀ (k : Nat) o, b <= k -> σ[k]? = some o -> ∃ a sh, κ.ρ[k]? = some a /\ ORel w κ o sh /\ Has w h₁ a sh /\ a ≠ 1
theorem frz1_tel {h₁ : Heap} {b : Nat} {u : V} (x : Ext κ.h h₁) (f : FrzOk w κ h₁ b σ) (e : frz1 b σ v = some u) (r : Rel w κ v v') : Rel w ⟨h₁, κ.ρ.take b, κ.τ⟩ u v' := by
 unfold frz1 at e
 split at e
 ·rename_i hs; cases e; exact simple_cut hs x r
 ·obtain ⟨k, e1, e⟩ := Option.bind_eq_some_iff.mp e
  rw [ref_inv e1] at r
  split at e
  case isFalse => cases e
  rename_i hk
  obtain ⟨o, ho, e⟩ := Option.bind_eq_some_iff.mp e
  obtain ⟨a, sh, ha, ro, hh, hne⟩ := f k _ hk ho
  obtain ⟨a', ha', rfl⟩ := r
  rw [ha] at ha'; cases ha'
  unfold plainO at e
  cases o with
  | list xs =>
   obtain ⟨hs, e⟩ := Option.ite_none_right_eq_some.mp e
   cases e
   obtain ⟨xs', rfl, rr⟩ := ro
   exact ⟨a, xs', rfl, hh, Rels.cut _ _ (Rels.mono (Kle.ext x) _ _ rr) (V.simples.bel hs)⟩
  | dict xs =>
   obtain ⟨hs, e⟩ := Option.ite_none_right_eq_some.mp e
   cases e
   obtain ⟨xs', rfl, rr⟩ := ro
   exact ⟨a, xs', rfl, hh, Reld.cut _ _ (Reld.mono (Kle.ext x) _ _ rr) (V.simpled.bel hs), hne⟩
  | _ => cases e
theorem frz1s_tel {h₁ : Heap} {b : Nat} (x : Ext κ.h h₁) (f : FrzOk w κ h₁ b σ) : ∀ {us : List V} {vs' : List Value}, frz1s b σ vs = some us -> Rels w κ vs vs' -> Rels w ⟨h₁, κ.ρ.take b, κ.τ⟩ us vs' := by
 induction vs with
 | nil => intro us vs' e r; cases e; exact r
 | cons v vs ih =>
  rintro us _ e ⟨v', r', rfl, rv, rt⟩
  obtain ⟨u, e1, e⟩ := Option.bind_eq_some_iff.mp e
  obtain ⟨us2, e2, rfl⟩ := Option.map_eq_some_iff.mp e
  exact ⟨v', r', rfl, frz1_tel x f e1 rv, ih e2 rt⟩
theorem frz_tel {h₁ : Heap} {b : Nat} {u : V} (x : Ext κ.h h₁) (f : FrzOk w κ h₁ b σ) (e : frz b σ v = some u) (r : Rel w κ v v') : Rel w ⟨h₁, κ.ρ.take b, κ.τ⟩ u v' := by
 unfold frz at e
 split at e
 ·rename_i hs; cases e; exact simple_cut hs x r
 ·cases q : v.tup? with
  | none => rw [q] at e; exact frz1_tel x f e r
  | some vs =>
   rw [q] at e
   rw [tup_inv q] at r
   obtain ⟨us, e1, rfl⟩ := Option.map_eq_some_iff.mp e
   obtain ⟨a, xs, rfl, hh, rr⟩ := r
   exact ⟨a, xs, rfl, hh.mono x, frz1s_tel x f e1 rr⟩
structure FdOk (κ : Kw) (f : Addr) (fd : FuncData) (fi : FnI) (cl : List (Str × Nat)) : Prop where
 ob : ∃ o, κ.h.get? f = some o /\ o.data = .func fd
 body : fd.body = .stmts fi.body
 scope : fd.scope = fi.scope
 globals : fd.globals = mainGlobals
 builtins : fd.builtins = builtinsNs
 closure : CellsR κ cl fd.closure
 code : κ.h.CodeRec fd.code fd.qualname
 co : fi.scope.isCoroutine = false
 gen : fi.scope.isGenerator = false
 kind : fi.scope.kind = .function
 bind : ∀ as : List Value, as.length = fi.ps.length -> bindArgs fd ⟨as, []⟩ = pure (fi.ps.zip as)
noncomputable def CodeT (w : World) (A : Around) (base : Nat) (κ : Kw) (rest : List (Addr × Sh)) (σ : List O) (m : M V) (c : Code) : Prop :=
 ∀ v σ', m σ = some (v, σ') -> base <= σ.length -> ∀ (s : Shared) (R : Result -> Shared -> Prop), Sim w κ s σ rest -> (∀ κ' b s', Kle κ κ' -> Rel w κ' v b -> Sim w κ' s' σ' rest -> Pres base σ σ' -> R (.ok (.ret b)) s') -> codeAny (model prg w) A c R s
theorem FlR.val {fl : Fl} {fl' : Flow} (h : FlR w κ fl fl') : Rel w κ (flV fl) (match (generalizing := false) fl' with | .ret v => v | _ => .none) := by
 cases fl with
 | ret v => obtain ⟨v', rfl, r⟩ := h; exact r
 | _ => cases h; exact rfl
theorem callFn_code (I : Snd L n) {f : Addr} {fd : FuncData} {fi : FnI} {cl : List (Str × Nat)} {args : List V} {args' : List Value} (T : Tp w κ.h) (room : A.depth < recursionLimit) (deep : ∀ env, Ok n (A.deeper env)) (X : FdOk κ f fd fi cl) (r : Rels w κ args args') :
  CodeT w A base κ rest σ (callFn L base fi cl args) (.call (.ref f) ⟨args', []⟩) := fun v σ' hm hbl s R S hQ => by
 change (do
  let cs <- mkCells fi.scope.names cl
  let fr <- asgParams fi.ps args ⟨fi.scope, cs, locals fi.scope.names, if fi.keep then base else σ.length⟩
  let r <- L.exs fi.body fr
  endFn fi.keep σ (flV r.1) : M V) σ = _ at hm
 refine bindC hm fun cs σ1 q1 hm1 => bindC hm1 fun fr σ2 q2 hm2 => bindC hm2 fun r1 σ3 q3 hm3 => ?_
 clear hm hm1 hm2
 obtain ⟨o, ho, hd⟩ := X.ob
 refine codeAny_call_function room (S.keep _ _ ho) hd (by rw [X.scope]; exact X.co) (by rw [X.scope]; exact X.gen) X.body (X.code.keeps S.keep) ?_
 rw [X.bind _ (by rw [r.len]; exact asgParams_len _ q2)]
 refine wpAny_pure ?_
 rw [X.scope, X.globals, X.builtins]
 have hb0 : (if fi.keep then base else σ.length) <= σ.length := by
  split
  ·exact hbl
  ·exact Nat.le_refl _
 refine newEnv_tel (around := none) (base := if fi.keep then base else σ.length) X.kind rfl (fun _ h => nomatch h) X.closure r fr σ2 (by
  change Option.bind (mkCells fi.scope.names cl σ) _ = _
  rw [q1]; exact q2) hb0 s _ _ S fun κ1 env' s1 k1 hF p1 => ?_
 obtain ⟨N, cs', rfl, bs, F1, S1, hb1⟩ := hF
 refine ⟨((T.nolimit).keeps k1.h).keeps S1.keep, codeAny_func ?_⟩
 refine I.exs (T.mono k1.h) (deep _) F1 hb1 _ _ _ q3 (Nat.le_trans hb0 p1.len) s1 _ _ S1 fun κ2 fl' s2 k2 ⟨bs2, hfl, F2, S2, hb3⟩ p2 => ?_
 have pp := p1.trans p2
 have kk := k1.trans k2
 have S3 := S2.rest_tail
 have rv := hfl.val
 change (if fi.keep then (if (flV r1.1).simple then some (flV r1.1, σ3) else none) else (frz σ.length σ3 (flV r1.1)).map fun v => (v, σ3.take σ.length)) = _ at hm3
 split at hm3
 ·rename_i hk
  rw [if_pos hk] at pp
  obtain ⟨_, e⟩ := Option.ite_none_right_eq_some.mp hm3
  cases e
  exact hQ κ2 _ s2 kk rv S3 pp
 ·rename_i hk
  rw [if_neg hk] at pp
  obtain ⟨u, q4, e⟩ := Option.map_eq_some_iff.mp hm3
  cases e
  obtain ⟨h₁, x, S4, f4⟩ := S3.hp.cutF pp.len (pp.bel _ (Nat.le_refl _) (Nat.le_refl _) (bel_of S.hp))
  exact hQ ⟨h₁, κ2.ρ.take σ.length, κ2.τ⟩ _ s2 (kk.cut x S.len) (frz_tel x f4 q4 rv) ⟨S4, S3.tk.same rfl⟩ ((Pres.rfl (b := base)).cut pp hbl (.inr rfl))
theorem fd_ok {f : Addr} {fi : FnI} (T : Tp w κ.h) (hf : fnAt f = some fi) : ∃ fd, FdOk κ f fd fi [] := by
 obtain ⟨K, X, F⟩ := T.X
 have G := F.at hf
 exact ⟨_, ⟨_, X _ _ G.ob, rfl⟩, G.body, G.scope, G.globals, G.builtins, G.closure, codeRec_of X G.code, G.co, G.gen, G.kind, bindN G.bind⟩
theorem callFn_codeF (I : Snd L n) {f : Addr} {fi : FnI} {args : List V} {args' : List Value} (T : Tp w κ.h) (room : A.depth < recursionLimit) (deep : ∀ env, Ok n (A.deeper env)) (hf : fnAt f = some fi) (r : Rels w κ args args') : CodeT w A base κ rest σ (callFn L base fi [] args) (.call (.ref f) ⟨args', []⟩) :=
 let ⟨_, X⟩ := fd_ok T hf
 callFn_code I T room deep X r
theorem callFn_tel (I : Snd L n) {f : Addr} {fi : FnI} {args : List V} {args' : List Value} (T : Tp w κ.h) (OK : Ok (n + 1) A) (hf : fnAt f = some fi) (r : Rels w κ args args') : Tel w A base κ rest (Rel w) (callFn L base fi [] args) (PySem.call (.ref f) args') :=
 fun σ v σ' hm hbl s E Q S hQ => wpAny_call (callFn_codeF I T OK.room (fun _ => OK.deeper) hf r v σ' hm hbl s _ S hQ)
theorem class_tel (I : Snd L n) {C i : Addr} {args : List V} {args' : List Value} (T : Tp w κ.h) (OK : Ok (n + 1) A) (hi : initOf C = some i) (r : Rels w κ args args') : TelT w base κ rest (Rel w) σ (mkInst L base C i args) (wpAny (model prg w) A (PySem.call (.ref C) args')) := fun v σ' hm hbl s E Q S hQ =>
 bindC hm fun k0 σ0 e0 hm1 => bindC hm1 fun fi σ1 e1 hm2 => bindC hm2 fun rv σ2 q1 hm3 => bindC hm3 fun _ σ3 e3 hm4 => by
 clear hm hm1 hm2 hm3
 cases e0; cases hm4
 cases hf : fnAt i with
 | none => rw [hf] at e1; cases e1
 | some fi' =>
 rw [hf] at e1
 cases e1
 cases hn : rv.none? with
 | none => rw [hn] at e3; cases e3
 | some u =>
 rw [hn] at e3
 refine hd fun P0 q0 => ?_
 cases e3
 rw [none_inv hn] at q1
 obtain ⟨K, X, F⟩ := T.X
 have CF := F.cls _ (lkMem hi)
 obtain ⟨l, D⟩ := S.led
 refine q0 ?_
 refine newInst X D.st CF.makes CF.init CF.fn fun y d h' S2 => ?_
 refine hd fun P0 q0 => ?_
 obtain ⟨l1, D1, S4⟩ := (D.puts h' [(y, .exact (instObj C d)), (d, .dict [])] S2).pop
 obtain ⟨h₁, k1, f, S5⟩ := D1.frz _ _ _ S4
 obtain ⟨l2, D2, S6⟩ := S5.pop
 refine q0 ?_
 have S7 := D2.alloc h' d (.dict []) (.dict []) ⟨_, rfl, rfl⟩ S6
 have kk : Kle κ ⟨h₁, κ.ρ ++ [d], κ.τ⟩ := ⟨k1, List.prefix_append _ _, fun _ _ => rfl, rfl⟩
 have ri : Rel w ⟨h₁, κ.ρ ++ [d], κ.τ⟩ (.inst C σ.length) (.ref y) := ⟨y, d, by rw [<- S.len]; exact List.getElem?_concat_length, rfl, f⟩
 exact callFn_codeF (A := A.under (.builtin "type.__call__" ⟨.ref C :: args', []⟩)) (base := base) I (T.mono kk.h) (by have := OK.depth; show A.depth + 1 < 1000; lia)
  (fun env => ⟨OK.hh, by have := OK.depth; show A.depth + 1 + 1 + 4 * n < 1000; lia, by have := OK.units; show A.units + 1 + 3 + 40 * n < 9900; lia⟩) hf (show Rels w _ (.inst C σ.length :: args) (.ref y :: args') from ⟨_, _, rfl, ri, Rels.mono kk _ _ r⟩) _ _ q1 (Nat.le_trans hbl (Pres.alloc (b := base) _).len) { s with heap := h' } (fun r s' => r = .ok (.ret .none) /\ Q (.ref y) s') ⟨S7, S.tk.same rfl⟩
  fun κ2 b s2 k2 rb S8 p8 => ⟨by cases rb; rfl, hQ κ2 _ s2 (kk.trans k2) (Rel.mono k2 _ _ ri) S8 ((Pres.alloc _).trans p8)⟩
end
end Mine
end
section
open PySem PySem.W PyProof.Rows PySem.Calls PySem.SeqAt
open PySem.Builtin PySem.Builtin.ObjectAttr
namespace Mine
section
variable {w : World} {A : Around} {base n : Nat} {κ : Kw} {rest l ow ow' : List (Addr × Sh)} {σ σ' : List O} {h h' h₀ : Heap} {v a b : V} {v' a' b' : Value} {vs : List V} {vs' : List Value} {s : Shared} {E : Value -> Shared -> Prop} {fr fr' : Fr} {env : Env} {bs : List (Str × Value)} {L : Lv} {p pos : Pos} {x : Addr} {R : Result -> Shared -> Prop} {o : V} {o' : Value} {args : List V} {args' : List Value}
theorem sum_ints : ∀ {r : Int} {vs' : List Value}, sumV vs = some r -> Rels w κ vs vs' -> ∃ ns, IntsAre vs' ns /\ ns.sum = r := by
 induction vs with
 | nil => intro r vs' h e; cases h; cases e; exact ⟨[], .nil, rfl⟩
 | cons v vs ih =>
  rintro r _ h ⟨v', r', rfl, rv, rt⟩
  cases v with
  | int i =>
   obtain ⟨r0, q, rfl⟩ := Option.map_eq_some_iff.mp h
   obtain ⟨ns, hi, e⟩ := ih q rt
   obtain ⟨t, rfl⟩ := rv
   exact ⟨i :: ns, .cons _ _ hi, by rw [List.sum_cons, e]⟩
  | _ => cases h
theorem sumListS {a : Addr} {xs : List Value} {ns : List Int} {Q : Value -> Shared -> Prop} (hh : A.handled = none) (hl : s.heap.IsList a xs.toArray) (hi : IntsAre xs ns) (h : ∀ h' tk t, Ext s.heap h' -> Q (.int ns.sum t) { s with heap := h', toks := tk }) : wpAny (model prg w) A (PySem.call (.builtin "sum") [.ref a]) Q E s := by
 obtain ⟨ys, hx⟩ := hi.allInts.items
 have hn : numsOf xs.toArray.toList = ns := by rw [show xs.toArray.toList = xs from rfl, hi.numsOf]
 rw [hx] at hl hn
 rw [nums_intItems] at hn
 refine sum_intListG hh hl fun h' tk t' hk => ?_
 have := h h' tk t' hk
 rw [preSum_eq, List.take_of_length_le (by simp), hn]
 exact this
section
variable {α : Type} {R : Kw -> α -> Value -> Prop} {t : Sem Value}
theorem TelT.one {W : List Value -> Tr Value} {f : V -> M α} (r : Rels w κ args args') (h : ∀ v v', Rel w κ v v' -> TelT w base κ rest R σ (f v) (W [v'])) : TelT w base κ rest R σ (liftO (Mine.one args) >>= f) (W args') := .lift fun v e => by
 rw [one_inv e] at r
 obtain ⟨v', _, rfl, rv, rfl⟩ := r
 exact h v v' rv
theorem TelT.two {W : List Value -> Tr Value} {f : V × V -> M α} (r : Rels w κ args args') (h : ∀ q v' u', Rel w κ q.1 v' -> Rel w κ q.2 u' -> TelT w base κ rest R σ (f q) (W [v', u'])) : TelT w base κ rest R σ (liftO (Mine.two args) >>= f) (W args') := .lift fun q e => by
 rw [two_inv e] at r
 obtain ⟨v', _, rfl, rv, u', _, rfl, ru, rfl⟩ := r
 exact h q v' u' rv ru
end
theorem len_tel (r : Rels w κ args args') : TelT w base κ rest (Rel w) σ (biLen args) (wpAny (model prg w) A (PySem.call (.builtin "len") args')) := by
 delta biLen
 refine .one (W := fun as => wpAny (model prg w) A (PySem.call (.builtin "len") as)) r fun v v' rv => ?_
 cases e : v.str? with
 | some z =>
  rw [str_inv e] at rv
  obtain ⟨t, rfl, -⟩ := rv
  exact .guard fun c => .rd fun s E Q l D k => P.len_str (by have := of_decide_eq_true c; rw [lim_eq] at this; lia) (k _ _ ⟨_, rfl⟩)
 | none =>
  refine .list rv fun vs p e h => .rd fun s E Q l D k => ?_
  obtain ⟨xs, rr, i⟩ := h _ _ D
  subst e
  exact lenListS D.st i fun t tk => k _ tk ⟨t, by rw [rr.len]⟩
theorem sum_tel (hh : A.handled = none) (r : Rels w κ args args') : TelT w base κ rest (Rel w) σ (biSum args) (wpAny (model prg w) A (PySem.call (.builtin "sum") args')) := by
 delta biSum
 refine .one (W := fun as => wpAny (model prg w) A (PySem.call (.builtin "sum") as)) r fun v v' rv => .listV rv fun xs y ys _ e f rr => .lift fun z hz => .leaf fun a σ' e' hb s E Q S k => ?_
 cases e'
 subst e
 obtain ⟨ns, hi, rfl⟩ := sum_ints hz rr
 exact sumListS hh ((f.mono S.keep).list) hi fun h' tk t x => k κ _ _ Kle.rfl ⟨t, rfl⟩ (S.keeps x) Pres.rfl
theorem isinst_tel (r : Rels w κ args args') : TelT w base κ rest (Rel w) σ (biIsi args) (wpAny (model prg w) A (PySem.call (.builtin "isinstance") args')) := by
 delta biIsi
 refine .two (W := fun as => wpAny (model prg w) A (PySem.call (.builtin "isinstance") as)) r fun q v' u' rv ru => .int rv fun i t _ e => .guard fun c => .rd fun s E Q l D k => ?_
 subst e
 have key : ∀ {T}, isTy T q.2 = true -> u' = .type T := fun {T} h => by
  cases e : q.2 with
  | con c => rw [e] at h ru; rw [ru]; exact isTy_con h
  | _ => rw [e] at h; cases h
 rcases Bool.or_eq_true_iff.mp c with c | c
 ·rw [key c]; exact IsiPair.int_tuple (k _ _ rfl)
 ·rw [key c]; exact IsiPair.int_bool (k _ _ rfl)
theorem range_make {a b c : Int} {t : Sem Value} (h : ∀ (s : Shared) (Q : Value -> Shared -> Prop) E, (∀ t u u' tk, Q (.ref s.heap.objs.size) { s with heap := s.heap.push { cls := .type "range", data := .fields #[.int a t, .int b u, .int c u'] }, toks := tk }) -> wpAny (model prg w) A t Q E s) :
  TelT w base κ rest (Rel w) σ (pure (.rng a b c)) (wpAny (model prg w) A t) := .val fun s E Q l D k => h s Q E fun t u u' tk =>
 k (.exact { cls := .type "range", data := .fields #[.int a t, .int b u, .int c u'] }) _ _ _ (fun κ' k f _ => ⟨_, rfl, t, u, u', f.get⟩) (D.st.push rfl rfl)
theorem pylong1 {x : Int} : Builtin.divisionGoesByPylong x (-1) = false := by
 unfold Builtin.divisionGoesByPylong
 rw [Bool.and_eq_false_iff]
 exact .inl (by decide +kernel)
theorem range_tel (r : Rels w κ args args') : TelT w base κ rest (Rel w) σ (tyRange args) (wpAny (model prg w) A (PySem.call (.type "range") args')) := by
 cases args with
 | nil => exact .fail
 | cons a as =>
  obtain ⟨a', r', rfl, ra, r⟩ := r
  cases as with
  | nil => cases r; exact .int ra fun i t _ e => e ▸ range_make fun s Q E k => call_range_1 (k _ _ _ _)
  | cons b bs =>
   obtain ⟨b', r', rfl, rb, r⟩ := r
   cases bs with
   | nil => cases r; exact .int ra fun i t _ e => .int rb fun j u _ e' => e ▸ e' ▸ range_make fun s Q E k => call_range_2 (k _ _ _ _)
   | cons c cs =>
    obtain ⟨c', r', rfl, rc, r⟩ := r
    refine .guard fun g => .int ra fun i t _ e => .int rb fun j u _ e' => .int rc fun k u' _ e'' => .guard fun hc => ?_
    obtain rfl := List.isEmpty_iff.mp g
    cases r
    obtain rfl := of_decide_eq_true hc
    subst e e' e''
    exact range_make fun s Q E k => call_range_3 (by decide) (k _ _ _ _) (.inl pylong1)
theorem Simh.frzAll (S : Simh w κ h σ (ow ++ rest)) : ∃ h₁, Ext κ.h h₁ /\ (∀ p ∈ ow, Has w h₁ p.1 p.2) /\ Simh w ⟨h₁, κ.ρ, κ.τ⟩ h σ rest := by
 refine hd fun P0 q0 => ?_
 obtain ⟨l, D, S1⟩ := S.front
 obtain ⟨h₁, x, S2, f⟩ := St.freeze S1
 refine q0 ?_
 exact ⟨h₁, x, f, D.grow ⟨h₁, κ.ρ, κ.τ⟩ (Kle.ext x) rfl _ S2⟩
theorem items_pairs {h : Heap} (kvs : List (Str × V)) : ∀ (kvs' : List (Str × Value)) (as : List Addr), Reld w κ kvs kvs' -> (kvs.all fun kv => !isQ kv.1) = true -> as.length = kvs'.length ->
  (∀ (j : Nat) (a : Addr), as[j]? = some a -> ∃ (key : Value) (k : Str) (x : Value), kvs'[j]? = some (k, x) /\ key.isStrOf k = true /\ h.get? a = some { cls := .type "tuple", data := .seq #[key, x] }) ->
  ∃ shs : List (Addr × Sh), shs.map (·.1) = as /\ (∀ p ∈ shs, Has w h p.1 p.2) /\ ∀ κ', Kle κ κ' -> (∀ p ∈ shs, Has w κ'.h p.1 p.2) -> Rels w κ' (kvs.map fun kv => .tup [.str kv.1, kv.2]) (as.map .ref) := by
 induction kvs with
 | nil =>
  intro kvs' as r _ hl hp
  cases r
  obtain rfl := List.eq_nil_of_length_eq_zero hl
  exact ⟨[], rfl, (fun p hp => by cases hp), fun κ' _ _ => (show Rels w κ' [] [] from rfl)⟩
 | cons kv kvs ih =>
  obtain ⟨y, v⟩ := kv
  intro kvs' as r hqs hl hp
  rw [List.all_cons, Bool.and_eq_true] at hqs
  refine hd fun P0 q0 => ?_
  obtain ⟨v', r', rfl, rv, rt⟩ := r
  refine q0 ?_
  cases as with
  | nil => cases hl
  | cons a as =>
  refine hd fun P0 q0 => ?_
  obtain ⟨key, k, x, hk, hi, hg⟩ := hp 0 a rfl
  cases hk
  obtain ⟨t, rfl⟩ := Value.isStrOf_shape hi
  obtain ⟨shs, e1, e2, e3⟩ := ih r' as rt hqs.2 (Nat.succ.inj hl) fun j b hb => hp (j + 1) b hb
  refine q0 ?_
  refine ⟨(a, .tup [.str y t, v']) :: shs, by rw [List.map_cons, e1], fun p hp => ?_, fun κ' k f => ⟨_, _, rfl, ⟨_, _, rfl, f _ (.head _), ⟨_, _, rfl, ⟨t, rfl, fun h => by rw [h] at hqs; exact absurd hqs.1 (by decide)⟩, _, _, rfl, Rel.mono k _ _ rv, rfl⟩⟩, e3 κ' k fun p hp => f p (.tail _ hp)⟩⟩
  rcases List.mem_cons.mp hp with rfl | hp
  ·exact ⟨_, hg, _, rfl⟩
  ·exact e2 p hp
theorem listCopyS {a : Addr} {xs : List Value} {h₀ : Heap} {Q : Value -> Shared -> Prop} (S : St w h₀ s.heap l) (ra : In2 w h₀ l a (.list xs))
  (h : ∀ a h', St w h₀ h' ((a, .list xs) :: l) -> Q (.ref a) { s with heap := h' }) : wpAny (model prg w) A (PySem.call (.type "list") [.ref a]) Q E s := by
 refine hd fun P0 q0 => ?_
 obtain ⟨o, ho, hz, n, rfl⟩ := ra.has S
 refine q0 ?_
 refine call_list_seq a (.inl rfl) ho rfl rfl (fun h' c' hk hD => h _ _ (S.step (ow := []) (ow' := [(s.heap.objs.size, .list xs)]) (fun b o _ e => hk b o e) (fun p hp => ?_) (List.nodup_cons.mpr ⟨List.not_mem_nil, List.nodup_nil⟩) fun b hb => ?_)) (by rw [List.size_toArray]; exact sz hz)
 ·rw [List.mem_singleton.mp hp]; exact ⟨_, hD, hz, c', rfl⟩
 ·rw [List.mem_singleton.mp hb]; exact .inr (Nat.le_refl _)
theorem listL_tel (r : Rel w κ v v') : TelT w base κ rest (Rel w) σ (listL v) (wpAny (model prg w) A (PySem.call (.type "list") [v'])) := by
 delta listL
 exact .list r fun xs p e h => .vlist fun s E Q l D k => by
  obtain ⟨xs', rr, i⟩ := h _ _ D
  subst e
  exact listCopyS D.st i fun a h' => k _ a h' _ rr
theorem listVw_tel {it : Bool} {kvs : List (Str × V)} (hh : A.handled = none) (r : Rel w κ (.view it kvs) v') : TelT w base κ rest (Rel w) σ (listVw it kvs) (wpAny (model prg w) A (PySem.call (.type "list") [v'])) := by
 refine .guard fun c => .leaf fun v σ' e hb s E Q S0 hQ => ?_
 refine hd fun P0 q0 => ?_
 cases e
 rw [Bool.and_eq_true, Bool.and_eq_true] at c
 obtain ⟨rfl, hc, hqk⟩ := c
 obtain ⟨y, d, kvs', rfl, fv, fd, rr, hne⟩ := r
 have S := S0.hp
 obtain ⟨epo, hat⟩ := fd.dict.dictAt
 refine q0 ?_
 refine kdx_call (prog := prg) (w := w) hh ⟨_, (fv.mono S.keep).get, rfl, rfl⟩ (hat.at (S.keep _)) (sz (by rw [rr.len]; exact of_decide_eq_true hc)) fun h' tk acc c as hk hlist hlen g hacc => ?_
 refine hd fun P0 q0 => ?_
 obtain ⟨shs, e1, e2, e3⟩ := items_pairs _ _ _ rr hqk hlen g.pairs
 obtain ⟨l, D⟩ := S.led
 have S2 := D.st.step (ow := []) (h' := h') (ow' := (s.heap.objs.size, .list acc.toList) :: shs) (fun b o _ e => hk b o e) (fun p hp => by
   rcases List.mem_cons.mp hp with rfl | hp
   ·exact ⟨_, hlist, by rw [hacc, List.length_map, hlen, rr.len]; exact of_decide_eq_true hc, c, by rw [Array.toArray_toList]⟩
   ·exact e2 p hp) (by
   rw [List.map_cons, e1, List.nodup_cons]
   exact ⟨fun hm => absurd (g.above _ hm) (Nat.lt_irrefl _), g.rise.imp fun h => Nat.ne_of_lt h⟩) (fun b hb => by
   rw [List.map_cons, e1] at hb
   rcases List.mem_cons.mp hb with rfl | hb
   ·exact .inr (Nat.le_refl _)
   ·exact .inr (Nat.le_of_lt (g.above _ hb)))
 obtain ⟨h₁, x, f, S3⟩ := (D.puts _ _ S2).frzAll
 refine q0 ?_
 refine hQ ⟨h₁, κ.ρ, κ.τ⟩ _ _ (Kle.ext x) ⟨_, _, rfl, f _ (.head _), ?_⟩ S3 Pres.rfl
 rw [hacc]
 exact e3 _ (Kle.ext x) fun p hp => f p (.tail _ hp)
theorem list_ty_tel (hh : A.handled = none) (r : Rels w κ args args') : TelT w base κ rest (Rel w) σ (tyList args) (wpAny (model prg w) A (PySem.call (.type "list") args')) := by
 delta tyList
 refine .one (W := fun as => wpAny (model prg w) A (PySem.call (.type "list") as)) r fun v v' rv => ?_
 cases v with
 | view it kvs => exact listVw_tel hh rv
 | _ => exact listL_tel rv
theorem tuple_tel (r : Rels w κ args args') : TelT w base κ rest (Rel w) σ (tyTuple args) (wpAny (model prg w) A (PySem.call (.type "tuple") args')) := by
 delta tyTuple
 refine .one (W := fun as => wpAny (model prg w) A (PySem.call (.type "tuple") as)) r fun v v' rv => .listV rv fun xs y ys _ e f rr => .guard fun c => .leaf fun v σ' e' hb s E Q S k => ?_
 cases e'
 subst e
 refine call_tuple_list ((f.mono S.keep).list) (fun h' hk => ?_) (sz (Nat.le_trans (by rw [List.size_toArray, rr.len]; exact of_decide_eq_true c) (by decide)))
 obtain ⟨l, D⟩ := (S.keeps (h' := h') hk).led
 obtain ⟨h₁, x₁, g, S₁⟩ := D.frz _ _ _ (D.st.push (x := .tup ys) (o := { cls := .type "tuple", data := .seq ys.toArray }) ⟨_, rfl⟩ rfl)
 exact k ⟨h₁, κ.ρ, κ.τ⟩ _ _ (Kle.ext x₁) ⟨_, _, rfl, g, Rels.mono (Kle.ext x₁) _ _ rr⟩ S₁ Pres.rfl
theorem int_tel (r : Rels w κ args args') : TelT w base κ rest (Rel w) σ (tyInt args) (wpAny (model prg w) A (PySem.call (.type "int") args')) := by
 delta tyInt
 exact .one (W := fun as => wpAny (model prg w) A (PySem.call (.type "int") as)) r fun v v' rv => .bool rv fun b _ e => e ▸ .rd fun s E Q l D k => call_int_bool (k _ _ ⟨_, rfl⟩)
end
theorem fn_ga : typeLookup (.type "function") "__getattribute__" = pure (some (.builtin "object.__getattribute__")) := by rw [typeLookup_type, builtinLookup_eq_fast]; kernel_rfl
theorem fn_gattr : typeLookup (.type "function") "__getattr__" = pure none := by rw [typeLookup_type, builtinLookup_eq_fast]; kernel_rfl
theorem fn_read : typeLookup (.type "function") "read" = pure none := by rw [typeLookup_type, builtinLookup_eq_fast]; kernel_rfl
theorem slot_fn_ga : Slot "function" "__getattribute__" "object.__getattribute__" :=
 .of (owner := "object") (n := "__getattribute__") (by rw [typeLookup_type, builtinLookup_eq_fast]; kernel_rfl) (by decide +kernel) (by decide +kernel) (by decide +kernel)
  (by first | exact .inl (by decide +kernel) | exact .inr (by decide +kernel)) (by rw [isSubtype_type]; kernel_rfl)
theorem slot_fn_sa : Slot "function" "__setattr__" "object.__setattr__" :=
 .of (owner := "object") (n := "__setattr__") (by rw [typeLookup_type, builtinLookup_eq_fast]; kernel_rfl) (by decide +kernel) (by decide +kernel) (by decide +kernel)
  (by first | exact .inl (by decide +kernel) | exact .inr (by decide +kernel)) (by rw [isSubtype_type]; kernel_rfl)
theorem entry_ga : entryFor table "object.__getattribute__" = some Builtin.«object.__getattribute__» := entryFor_of_fast (by kernel_rfl)
theorem entry_sa : entryFor table "object.__setattr__" = some Builtin.«object.__setattr__» := entryFor_of_fast (by kernel_rfl)
theorem args_ga (a b : Value) : argsOk "object.__getattribute__" ⟨[a, b], []⟩ := by unfold argsOk; kernel_rfl
theorem args_sa (a b c : Value) : argsOk "object.__setattr__" ⟨[a, b, c], []⟩ := by unfold argsOk; kernel_rfl
theorem mro_fn : mroOf (.type "function") = pure [.type "function", .type "object"] := by rw [mroOf_type]; kernel_rfl
theorem refuse_fn (self : Value) : refuseLoop self "__setattr__" [.type "function", .type "object"] = pure () := by
 have h1 : classOwn (.type "function") "__setattr__" = pure none := by kernel_rfl
 have : refuseLoop self "__setattr__" [.type "function", .type "object"] = refuseLoop self "__setattr__" [.type "object"] := by
  unfold refuseLoop
  simp only [List.forIn_cons]
  rw [h1]
  rfl
 rw [this]
 exact PySem.F.store_object.passes self
section
variable {w : World} {A : Around} {s : Shared} {E : Value -> Shared -> Prop} {a d : Addr}
theorem fn_getattr {fd : FuncData} {osl : Array (Option Value)} {v : Value} {m : Str -> Option Value} (hv : onTheHeap v = true) (ho : s.heap.get? a = some ⟨.type "function", some d, .func fd, osl⟩) (hn : s.heap.Ns d m) (hm : m (attS "read") = some v) {Q : Value -> Shared -> Prop} (h : ∀ tk, Q v { s with toks := tk }) :
  wpAny (model prg w) A (getAttr (.ref a) "read") Q E s := by
 have hT : s.TypeIs (.ref a) "function" := ⟨_, ho, rfl⟩
 unfold getAttr
 refine wpAny_bind (wpAny_mkText ?_)
 unfold getAttrBy
 refine wpAny_holding (wpAny_bind (wpAny_typeOf (T := "function") hT (wpAny_bind (wpAny_of_eq fn_ga ?_))))
 dsimp only
 show wpAny _ A (getAttrByItsOwn (.ref a) (.str "read" s.toks) (.type "function") (.builtin "object.__getattribute__") true false) Q E _
 unfold getAttrByItsOwn
 refine wpAny_bind (wpAny_pure ?_)
 refine wpAny_bind (wpAny_attempt (wpAny_holding ?_))
 show wpAny _ A (boundAndCalled (.builtin "object.__getattribute__") (.ref a) (.str "read" s.toks)) _ _ _
 unfold boundAndCalled
 refine wpAny_bind (wpAny_of_eq (slot_fn_ga.bind (.ref a)) ?_)
 dsimp only
 refine wpAny_call_entry slot_fn_ga hT entry_ga ?_ (args_ga _ _)
 show wpAny _ _ (typeOf (.ref a) >>= _) _ _ _
 refine wpAny_bind (wpAny_typeOf (T := "function") hT ?_)
 refine wpAny_bind ?_
 unfold ObjectAttr.find
 refine wpAny_bind (wpAny_of_eq fn_read (wpAny_bind (wpAny_pure (wpAny_bind (wpAny_pure ?_)))))
 dsimp only
 unfold ownThenClass inOwnDict ObjectAttr.ownDict
 refine wpAny_bind (wpAny_bind (wpAny_bind ?_))
 refine wpAny_loadPart ho ?_
 dsimp only
 unfold instanceDict
 refine wpAny_bind (wpAny_loadPart ho ?_)
 dsimp only
 refine wpAny_pure ?_
 unfold inDict
 refine wpAny_nsGet hn ?_
 rw [show m (Str.ofString "read") = some v from hm]
 refine wpAny_bind (wpAny_rule (wpAny_pure ?_))
 refine wpAny_pure ⟨_, rfl, ?_⟩
 cases v with
 | ref x => exact wpAny_pure (h _)
 | _ => cases hv
theorem strm_get {c : Addr} {pl : Sem Bool} {Q : Value × List Value -> Shared -> Prop} (x : StrmAt w s.heap a c) (h : ∀ tk, Q (.ref a, []) { s with toks := tk }) : wpAny (model prg w) A (getMethod (.ref a) "read" pl) Q E s := by
 obtain ⟨d, fd, fi, osl, ho, hn, -⟩ := x
 have hT : s.TypeIs (.ref a) "function" := ⟨_, ho, rfl⟩
 unfold getMethod
 refine wpAny_bind (wpAny_specialOf hT fn_ga ?_)
 show wpAny _ A (if (Manifest.canonical "object.__getattribute__" != "object.__getattribute__") = true then _ else _) Q E s
 rw [show (Manifest.canonical "object.__getattribute__" != "object.__getattribute__") = false by decide +kernel, if_neg Bool.false_ne_true]
 refine wpAny_bind (wpAny_specialOf hT fn_gattr ?_)
 refine wpAny_bind (wpAny_specialOf hT fn_read ?_)
 dsimp only
 refine wpAny_bind (fn_getattr rfl ho hn.ns (by rfl) fun tk => wpAny_pure (h tk))
theorem fn_setattr {fd : FuncData} {v : Value} {l : List (Addr × Sh)} {h₀ : Heap} (S : St w h₀ s.heap ((a, .exact ⟨.type "function", none, .func fd, #[]⟩) :: l)) {Q : Unit -> Shared -> Prop}
  (h : ∀ d h' tk, s.toks <= tk -> St w h₀ h' ((d, .ns [(attS "read", v)]) :: (a, .exact ⟨.type "function", some d, .func fd, #[]⟩) :: l) -> Q () { s with heap := h', toks := tk }) :
  wpAny (model prg w) A (setAttr (.ref a) "read" v) Q E s := by
 have ho : s.heap.get? a = some ⟨.type "function", none, .func fd, #[]⟩ := (S.has (.head _)).get
 have hT : s.TypeIs (.ref a) "function" := ⟨_, ho, rfl⟩
 unfold setAttr
 refine wpAny_bind (wpAny_mkText (wpAny_bind ?_))
 refine wpAny_callSpecial?_slot (name := Str.ofString "__setattr__") hT slot_fn_sa (wpAny_call_entry slot_fn_sa hT entry_sa ?_ (args_sa _ _ _))
 rw [osa_eq, refuse_eq]
 refine wpAny_bind (wpAny_bind (wpAny_typeOf (T := "function") hT (wpAny_bind (wpAny_of_eq mro_fn (wpAny_of_eq (refuse_fn _) ?_)))))
 refine wpAny_bind (wpAny_typeOf (T := "function") hT (wpAny_bind (wpAny_of_eq fn_read (wpAny_bind (wpAny_pure ?_)))))
 dsimp only
 unfold storeInOwnDict
 refine wpAny_bind (wpAny_pure ?_)
 refine wpAny_bind ?_
 unfold ownDictForStores instanceDict
 refine wpAny_bind (wpAny_loadPart ho ?_)
 dsimp only
 rw [if_neg (show ¬ ((!true || !typeHasDict (Value.type "function")) = true) by decide +kernel)]
 refine wpAny_bind (wpAny_alloc ?_)
 have S2 := S.push (x := .exact { cls := .type "dict", data := .dict #[] }) (o := { cls := .type "dict", data := .dict #[] }) rfl rfl
 have ho2 := (S2.has (.tail _ (.head _))).get
 refine wpAny_bind (wpAny_update (by rw [ho2]) ?_)
 have hne : a ≠ s.heap.objs.size := Nat.ne_of_lt (Heap.lt_size ho)
 have ho3 := Heap.get?_update_self (fun o => { o with dict := some s.heap.objs.size }) ho2 rfl
 have S3 := S2.set (x' := .exact ⟨.type "function", some s.heap.objs.size, .func fd, #[]⟩) (.tail .head) (Heap.SameBut.update ..) ⟨_, ho3, rfl⟩
 have hd3 := (S3.has (.head _)).get
 rw [show ∀ x y : Addr, dictMade (.type "function") x y = pure (some y) from fun x y => by kernel_rfl]
 refine wpAny_pure ?_
 unfold storeInDict newKeyGuard
 refine wpAny_bind (wpAny_pure (wpAny_bind ?_))
 unfold nsSet
 refine wpAny_bind (wpAny_bind (wpAny_askSetting (wpAny_pure (wpAny_bind (wpAny_mkText (wpAny_bind (wpAny_loadPart hd3 ?_)))))))
 dsimp only
 rw [if_neg (show ¬ (aRefKeyMayBeTheName (Str.ofString "read") #[] = true) by decide +kernel)]
 refine wpAny_bind (wpAny_pure ?_)
 refine wpAny_updatePart hd3 ?_
 generalize hH : (s.heap.push { cls := .type "dict", data := .dict #[] }).update a (fun o => { o with dict := some s.heap.objs.size }) = H at S3 hd3
 generalize hhash : (if (Str.ofString "read").cps.isEmpty = true then 0 else reduceHash ((model prg w).w.params.strHash (Str.ofString "read").cps)) = hs
 have hD := Heap.get?_update_self (Obj.putName (Str.ofString "read") hs (.str (Str.ofString "read") (s.toks + 1)) v) hd3 (by rfl)
 have hput : Obj.putName (Str.ofString "read") hs (.str (Str.ofString "read") (s.toks + 1)) v { cls := .type "dict", data := .dict #[] } = { cls := .type "dict", data := .dict #[⟨hs, .str (Str.ofString "read") (s.toks + 1), v⟩] 1 } := by rfl
 rw [hput] at hD
 have hok : Sh.ok w (.ns [(attS "read", v)]) { cls := .type "dict", data := .dict #[⟨hs, .str (Str.ofString "read") (s.toks + 1), v⟩] 1 } := by
  refine ⟨_, _, rfl, fun e he => ⟨Str.ofString "read", s.toks + 1, by simp at he; rw [he]⟩, fun y => ?_⟩
  show (Array.find? (fun e => e.key.isStr y) #[(⟨hs, .str (Str.ofString "read") (s.toks + 1), v⟩ : DictEntry)]).map (·.val) = List.lookup y [(attS "read", v)]
  by_cases q : y = attS "read"
  ·subst q
   simp [Value.isStr, attS]
  ·have h1 : (Str.ofString "read" == y) = false := by simpa using fun e => q e.symm
   have h2 : (y == attS "read") = false := by simpa using q
   simp [Value.isStr, h1, List.lookup_cons, h2]
 have S4 := S3.set (x' := .ns [(attS "read", v)]) .head (Heap.SameBut.update _ _ (Obj.putName (Str.ofString "read") hs (.str (Str.ofString "read") (s.toks + 1)) v)) ⟨_, hD, hok⟩
 refine wpAny_bind (wpAny_lookBehind hD ?_ ?_)
 ·exact pastItsLine_dict (by show 1 <= _; rw [sizeLine_eq]; lia)
 ·exact wpAny_pure ⟨_, rfl, wpAny_pure (h s.heap.objs.size _ _ (by show s.toks <= s.toks + 1 + 1; lia) S4)⟩
end
section
variable {w : World} {A : Around} {base n : Nat} {κ : Kw} {rest l ow ow' : List (Addr × Sh)} {σ σ' : List O} {h h' h₀ : Heap} {v a b : V} {v' a' b' : Value} {vs : List V} {vs' : List Value} {s : Shared} {E : Value -> Shared -> Prop} {fr fr' : Fr} {env : Env} {bs : List (Str × Value)} {L : Lv} {p pos : Pos} {x : Addr} {R : Result -> Shared -> Prop} {o : V} {o' : Value} {args : List V} {args' : List Value}
theorem append_tel (ro : Rel w κ o o') (r : Rels w κ args args') : TelT w base κ rest (Rel w) σ (bmAppend base o args) (wpAny (model prg w) A (PySem.call (.builtin "list.append") (o' :: args'))) := by
 delta bmAppend
 exact .ref ro fun k y _ e hk => .one (W := fun as => wpAny (model prg w) A (PySem.call (.builtin "list.append") (o' :: as))) r fun u u' ru => .listAt fun xs ho => .wr fun hw => .guard fun hc => .putL hk ho (fun c hc hk hb => bels_app hb ⟨hw c hc hk, trivial⟩) fun s E Q l xs' S rr k => by
  obtain ⟨l', rp, k⟩ := k _ (rr.app (Rels.one ru))
  subst e
  exact appendS S rp (by rw [rr.len]; exact of_decide_eq_true hc) fun h' S' => k h' _ s.toks S' rfl
theorem pop_tel (ro : Rel w κ o o') (r : Rels w κ args args') : TelT w base κ rest (Rel w) σ (bmPop o args) (wpAny (model prg w) A (PySem.call (.builtin "list.pop") (o' :: args'))) := by
 delta bmPop
 exact .ref ro fun k y _ e hk => .one (W := fun as => wpAny (model prg w) A (PySem.call (.builtin "list.pop") (o' :: as))) r fun u u' ru => .int ru fun i t _ e' => .listAt fun xs ho => .guard fun hc => .lift fun u hu => .putL hk ho (fun c hc hk hb => bels_erase _ hb) fun s E Q l xs' S rr k => by
  obtain ⟨l', rp, k⟩ := k _ (rr.erase i.toNat)
  obtain ⟨z, hz, rz⟩ := rr.get hu
  have hc := of_decide_eq_true hc
  subst e e'
  exact popAtS S rp (Int.toNat_of_nonneg hc).symm (List.getElem?_eq_some_iff.mp hz).1 hz fun h' S' => k h' _ s.toks S' rz
theorem insert_tel (ro : Rel w κ o o') (r : Rels w κ args args') : TelT w base κ rest (Rel w) σ (bmInsert base o args) (wpAny (model prg w) A (PySem.call (.builtin "list.insert") (o' :: args'))) := by
 delta bmInsert
 exact .ref ro fun k y _ e hk => .two (W := fun as => wpAny (model prg w) A (PySem.call (.builtin "list.insert") (o' :: as))) r fun q u1 u2 r1 r2 => .int r1 fun i t _ e' => .listAt fun xs ho => .guard fun hc => .wr fun hw => .putL hk ho (fun c hc hk hb => bels_app (bels_take _ hb) ⟨hw c hc hk, bels_drop _ hb⟩) fun s E Q l xs' S rr k => by
  obtain ⟨l', rp, k⟩ := k (xs'.take i.toNat ++ u2 :: xs'.drop i.toNat) ((rr.take _).app ⟨_, _, rfl, r2, rr.drop _⟩)
  obtain ⟨h0, h1, h2⟩ := of_decide_eq_true hc
  subst e e'
  exact insertS S rp (by rw [rr.len]; exact h2) (Int.toNat_of_nonneg h0).symm (by rw [rr.len]; exact Int.toNat_le.mpr h1) fun h' S' => k h' _ s.toks S' rfl
theorem extendS {y z : Addr} {xs ys : List Value} {h₀ : Heap} {l' : List (Addr × Sh)} {Q : Value -> Shared -> Prop} (S : St w h₀ s.heap l) (r : Rep y (.list xs) (.list (xs ++ ys)) l l') (rb : In2 w h₀ l z (.list ys)) (hz : xs.length + ys.length <= 100000)
  (h : ∀ h', St w h₀ h' l' -> Q .none { s with heap := h' }) : wpAny (model prg w) A (PySem.call (.builtin "list.extend") [.ref y, .ref z]) Q E s := by
 refine hd fun P0 q0 => ?_
 obtain ⟨o, ho, -, n, rfl⟩ := S.has r.mem
 obtain ⟨o2, ho2, -, n2, rfl⟩ := rb.has S
 refine q0 ?_
 refine call_meets F.slot_list_extend ⟨_, ho, rfl⟩ F.entry_list_extend (F.args_list_extend_2 _ _)
  (AutoSeq1.list_extend_list_list_0 y xs.toArray n z ys.toArray n2 (by simp only [Builtin.List.listTooLong, sizeLine_eq, List.size_toArray]; simp; lia) (by rw [List.size_toArray]; exact sz (by lia)) (by simp only [List.size_toArray]; have := sz hz; lia)) ⟨ho, ho2, h _ (list_upd S r _ (by rw [List.length_append]; exact hz) (by simp))⟩
theorem extend_tel (ro : Rel w κ o o') (r : Rels w κ args args') : TelT w base κ rest (Rel w) σ (bmExtend base o args) (wpAny (model prg w) A (PySem.call (.builtin "list.extend") (o' :: args'))) := by
 delta bmExtend
 exact .ref ro fun k y _ e hk => .one (W := fun as => wpAny (model prg w) A (PySem.call (.builtin "list.extend") (o' :: as))) r fun u u' ru => .listV ru fun ws z ys _ e' f rz => .listAt fun xs ho => .wr fun hw => .guard fun hc => .putL hk ho (fun c hc hk hb => bels_app hb (hw c hc hk)) fun s E Q l xs' S rr k => by
  obtain ⟨l', rp, k⟩ := k _ (rr.app rz)
  subst e e'
  exact extendS S rp (.inr f) (by rw [rr.len, rz.len]; exact of_decide_eq_true hc) fun h' S' => k h' _ s.toks S' rfl
theorem strs_at {z : Str} {xs : List V} {ys : List Value} (hc : xs.all isStrV = true) (r : Rels w κ xs ys) : ys.countP (isS z) = xs.countP (strIs z) := by
 induction xs generalizing ys with
 | nil => cases r; rfl
 | cons v vs ih =>
  obtain ⟨y, ys, rfl, rv, rt⟩ := r
  rw [List.all_cons, Bool.and_eq_true] at hc
  rw [List.countP_cons, List.countP_cons, ih hc.2 rt, (strIs_str hc.1 rv).2]
theorem isS_gives {z : Str} {t : Tok} (h : isStrV v = true) (r : Rel w κ v v') : MeetsSeq.EqGives v' (.str z t) (isS z v') := by
 cases v with
 | str q => obtain ⟨u, rfl, -⟩ := r; exact eqGives_str q z u t
 | _ => cases h
theorem count_tel (ro : Rel w κ o o') (r : Rels w κ args args') : TelT w base κ rest (Rel w) σ (bmCount o args) (wpAny (model prg w) A (PySem.call (.builtin "list.count") (o' :: args'))) := by
 delta bmCount
 exact .listV ro fun xs y ys _ e f rr => .one (W := fun as => wpAny (model prg w) A (PySem.call (.builtin "list.count") (o' :: as))) r fun u u' ru => .str ru fun z t _ e' _ => .guard fun hc => .rd fun s E Q l D k => by
  subst e e'
  obtain ⟨ob, ho, -, m, rfl⟩ := D.st.frz f
  refine call_meets F.slot_list_count ⟨_, ho, rfl⟩ F.entry_list_count (F.args_list_count_2 _ _) (MeetsSeq.list_count y ys.toArray m (.str z t) (isS z) fun y hy => ?_) ⟨ho, ?_⟩
  ·obtain ⟨v, hv, rv⟩ := rr.mem (List.mem_toArray.mp hy)
   exact isS_gives (List.all_eq_true.mp hc v hv) rv
  ·rw [show ys.toArray.toList.countP (isS z) = xs.countP (strIs z) from strs_at hc rr]
   exact k _ _ ⟨_, rfl⟩
theorem get_tel (ro : Rel w κ o o') (r : Rels w κ args args') : TelT w base κ rest (Rel w) σ (bmGet o args) (wpAny (model prg w) A (PySem.call (.builtin "dict.get") (o' :: args'))) := by
 delta bmGet
 exact .one (W := fun as => wpAny (model prg w) A (PySem.call (.builtin "dict.get") (o' :: as))) r fun u u' ru => .str ru fun z t _ e' _ => .dict ro fun kvs y e h => .rd fun s E Q l D k => by
  subst e e'
  obtain ⟨kvs', rr, i, hne⟩ := h _ _ D
  have hD := (i.has D.st).dict
  refine call_meetsIn (w := w) F.slot_dict_get hD.typeIs F.entry_dict_get (F.args_dict_get_2 _ _) (meets_dict_get (strKind prg w) y (strKind_is prg w z t) (sysMod hne)) ⟨_, hD.mapOf, k _ _ ?_⟩
  cases q : kvs.lookup z with
  | none => rw [rr.none q]; rfl
  | some u =>
   obtain ⟨u', e', ru⟩ := rr.get q
   rw [e']; exact ru
theorem view_make {it : Bool} {kvs : List (Str × V)} {t : Sem Value} (ro : Rel w κ (.dict kvs) o') (h : ∀ (s : Shared) (Q : Value -> Shared -> Prop) E y kvs', o' = .ref y -> y ≠ 1 -> s.heap.DictOf (strKind prg w) y kvs' -> Q (.ref s.heap.objs.size) { s with heap := s.heap.push (viewObj it y) } -> wpAny (model prg w) A t Q E s) :
  TelT w base κ rest (Rel w) σ (pure (.view it kvs)) (wpAny (model prg w) A t) := by
 refine hd fun P0 q0 => ?_
 obtain ⟨y, kvs', rfl, f, rr, hne⟩ := ro
 refine q0 ?_
 exact .val fun s E Q l D k => h s Q E y kvs' rfl hne (D.st.frz f).dict (k (.exact (viewObj it y)) _ _ s.toks (fun κ' k g _ => ⟨_, y, _, rfl, g, f.mono k.h, Reld.mono k _ _ rr, hne⟩) (D.st.push rfl rfl))
theorem items_tel (ro : Rel w κ o o') (r : Rels w κ args args') : TelT w base κ rest (Rel w) σ (bmView true o args) (wpAny (model prg w) A (PySem.call (.builtin "dict.items") (o' :: args'))) := by
 refine .lift fun kvs e => .guard fun c => ?_
 obtain rfl := List.isEmpty_iff.mp c
 cases r
 exact view_make (dict_inv e ▸ ro) fun s Q E y kvs' e hne hD k => by
  subst e
  exact call_meetsIn (w := w) F.slot_dict_items hD.typeIs F.entry_dict_items (F.args_dict_items_1 _) (meets_dict_items (strKind prg w) y (sysMod hne)) ⟨⟨_, hD⟩, k⟩
theorem values_tel (ro : Rel w κ o o') (r : Rels w κ args args') : TelT w base κ rest (Rel w) σ (bmView false o args) (wpAny (model prg w) A (PySem.call (.builtin "dict.values") (o' :: args'))) := by
 refine .lift fun kvs e => .guard fun c => ?_
 obtain rfl := List.isEmpty_iff.mp c
 cases r
 exact view_make (dict_inv e ▸ ro) fun s Q E y kvs' e hne hD k => by
  subst e
  exact call_meetsIn (w := w) F.slot_dict_values hD.typeIs F.entry_dict_values (F.args_dict_values_1 _) (meets_dict_values (strKind prg w) y (sysMod hne)) ⟨⟨_, hD⟩, k⟩
noncomputable def MtR (w : World) (κ : Kw) (t : Mt) (o' : Value) (r : Value × List Value) : Prop :=
 match t with
 | .fn f => r = (.ref f, [o']) /\ ∀ K, Facts K -> keepB K (.ref f) = true
 | .bi i => r = (.builtin i, [o'])
 | .strm => r = (o', [])
theorem tabM_inv {T : List (Str × String)} {m : Str} {t : Mt} (h : tabM T m = some t) : ∃ i, t = .bi i /\ (m, i) ∈ T := by
 obtain ⟨i, e, rfl⟩ := Option.map_eq_some_iff.mp h
 exact ⟨i, rfl, lkMem e⟩
noncomputable def SlotsOk (ty : String) (T : List (Str × String)) : Prop := ∀ p ∈ T, Slot ty p.1 p.2 /\ typeOf (.builtin p.2) = pure (.type "method_descriptor")
theorem strTab_ok : SlotsOk "str" strTab := List.forall_mem_cons.mpr ⟨⟨F.slot_str_join, F.type_str_join⟩, List.forall_mem_cons.mpr ⟨⟨F.slot_str_count, F.type_str_count⟩, fun _ h => nomatch h⟩⟩
theorem dictTab_ok : SlotsOk "dict" dictTab := List.forall_mem_cons.mpr ⟨⟨F.slot_dict_get, F.type_dict_get⟩, List.forall_mem_cons.mpr ⟨⟨F.slot_dict_items, F.type_dict_items⟩, List.forall_mem_cons.mpr ⟨⟨F.slot_dict_values, F.type_dict_values⟩, fun _ h => nomatch h⟩⟩⟩
theorem listTab_ok : SlotsOk "list" listTab := List.forall_mem_cons.mpr ⟨⟨F.slot_list_append, F.type_list_append⟩, List.forall_mem_cons.mpr ⟨⟨F.slot_list_pop, F.type_list_pop⟩, List.forall_mem_cons.mpr ⟨⟨F.slot_list_insert, F.type_list_insert⟩, List.forall_mem_cons.mpr ⟨⟨F.slot_list_extend, F.type_list_extend⟩, List.forall_mem_cons.mpr ⟨⟨F.slot_list_count, F.type_list_count⟩, fun _ h => nomatch h⟩⟩⟩⟩⟩
theorem dict_getK {m : Str} {t : Mt} {pl : Sem Bool} {Q : Value × List Value -> Shared -> Prop} {y : Addr} {xs : List (Str × Value)} (i : Has w s.heap y (.dict xs)) (e : dictMeth m = some t) (hQ : ∀ r, MtR w κ t (.ref y) r -> Q r s) : wpAny (model prg w) A (getMethod (.ref y) m pl) Q E s := by
 refine hd fun P0 q0 => ?_
 obtain ⟨id, rfl, hm⟩ := tabM_inv e
 obtain ⟨slot, hty⟩ := dictTab_ok _ hm
 obtain ⟨ob, ho, es, ep, hx, -⟩ := i
 refine q0 ?_
 exact getMethod_builtin ⟨_, ho, hx.1⟩ F.plainAttrs_dict slot hty (fun b e => by cases e; exact ⟨_, ho, hx.2.1⟩) (hQ _ rfl)
theorem list_getK {m : Str} {t : Mt} {pl : Sem Bool} {Q : Value × List Value -> Shared -> Prop} {y : Addr} {xs : List Value} {h₀ : Heap} (S : St w h₀ s.heap l) (i : In2 w h₀ l y (.list xs)) (e : listMeth m = some t) (hQ : ∀ r, MtR w κ t (.ref y) r -> Q r s) : wpAny (model prg w) A (getMethod (.ref y) m pl) Q E s := by
 obtain ⟨id, rfl, hm⟩ := tabM_inv e
 obtain ⟨slot, hty⟩ := listTab_ok _ hm
 exact methListS slot hty S i (hQ _ rfl)
theorem methTag_tel {m : Str} {pl : Sem Bool} (T : Tp w κ.h) (ro : Rel w κ o o') : TelT w base κ rest (fun κ t r => MtR w κ t o' r) σ (methTag o m) (wpAny (model prg w) A (getMethod o' m pl)) := by
 cases o with
 | inst C k =>
  obtain ⟨y, d, hk, rfl, f⟩ := ro
  refine .dictAt fun kvs ho => .guard fun hc => .lift fun f' hf => .rd fun s E Q l D k => ?_
  obtain ⟨K, X, F⟩ := T.X
  have MF := F.meth _ (lkMem hf)
  obtain ⟨kvs', rr, mm⟩ := ent_dict hk ho D
  exact methI X D.st (.inr f) (.inl mm) (rr.none (Option.isNone_iff_eq_none.mp hc)) MF.get MF.find MF.fn (k _ s.toks ⟨rfl, fun K F => (F.meth _ (lkMem hf)).keep⟩)
 | strm c =>
  obtain ⟨a, c', hk, rfl, x⟩ := ro
  refine .guard fun hc => .rd fun s E Q l D k => ?_
  obtain rfl := of_decide_eq_true hc
  exact strm_get (x.mono D.st.keep) fun tk => k _ tk rfl
 | str z =>
  obtain ⟨tk, rfl, -⟩ := ro
  refine .lift1 fun t e => .rd fun s E Q l D k => ?_
  obtain ⟨id, rfl, hm⟩ := tabM_inv e
  obtain ⟨slot, hty⟩ := strTab_ok _ hm
  exact getMethod_builtin (typeIs_str _ _ _) F.plainAttrs_str slot hty (fun b e => by cases e) (k _ s.toks rfl)
 | dict kvs =>
  obtain ⟨y, ys, rfl, f, rr, hne⟩ := ro
  exact .lift1 fun t e => .rd fun s E Q l D k => dict_getK (κ := κ) (D.st.frz f) e fun r h => k r s.toks h
 | list xs =>
  obtain ⟨y, ys, rfl, f, rr⟩ := ro
  exact .lift1 fun t e => .rd fun s E Q l D k => list_getK (κ := κ) D.st (.inr f) e fun r h => k r s.toks h
 | ref j =>
  obtain ⟨y, hk, rfl⟩ := ro
  refine .look fun ob ho => .lift1 fun t e => .rd fun s E Q l D k => ?_
  cases ob with
  | list xs => obtain ⟨xs', rr, m⟩ := ent_list hk ho D; exact list_getK (κ := κ) D.st (.inl m) e fun r h => k r s.toks h
  | dict xs => obtain ⟨xs', rr, m⟩ := ent_dict hk ho D; exact dict_getK (κ := κ) (D.st.has m) e fun r h => k r s.toks h
  | _ => cases e
 | _ => exact .fail
end
end Mine
end
section
open PySem PySem.W PyProof.Rows PySem.Calls PySem.SeqAt
namespace Mine
section
variable {w : World} {A : Around} {base n : Nat} {κ : Kw} {rest l ow ow' : List (Addr × Sh)} {σ σ' : List O} {h h' h₀ : Heap} {v a b : V} {v' a' b' : Value} {vs : List V} {vs' : List Value} {s : Shared} {E : Value -> Shared -> Prop} {fr fr' : Fr} {env : Env} {bs : List (Str × Value)} {L : Lv} {p pos : Pos} {x : Addr} {R : Result -> Shared -> Prop} {o : V} {o' : Value} {args : List V} {args' : List Value}
theorem join_strs {xs : List V} : ∀ {ys : List Value} {r : Str}, joinV xs = some r -> Rels w κ xs ys -> ∃ ps : List (Str × Tok), ys = strValues ps /\ r = ⟨(ps.flatMap fun p => p.1.cps.toList).toArray⟩ := by
 induction xs with
 | nil => intro ys r h e; cases h; cases e; exact ⟨[], rfl, rfl⟩
 | cons v vs ih =>
  rintro _ r h ⟨y, ys, rfl, rv, rt⟩
  cases v with
  | str z =>
   obtain ⟨r0, q, rfl⟩ := Option.map_eq_some_iff.mp h
   obtain ⟨ps, rfl, rfl⟩ := ih q rt
   obtain ⟨t, rfl, -⟩ := rv
   refine ⟨(z, t) :: ps, rfl, ?_⟩
   obtain ⟨⟨cs⟩⟩ := z
   show (⟨_ ++ _⟩ : Str) = _
   rw [List.flatMap_cons, List.append_toArray]
  | _ => cases h
theorem glued_empty (ps : List Str) : Builtin.Str.glued Str.empty ps = ⟨(ps.flatMap fun p => p.cps.toList).toArray⟩ := by
 have g : ∀ (ps : List Str) (acc : Array Nat), ps.foldl (fun acc p => acc ++ Str.empty.cps ++ p.cps) acc = acc ++ (ps.flatMap fun p => p.cps.toList).toArray := by
  intro ps
  induction ps with
  | nil => intro acc; rw [List.flatMap_nil]; exact Array.append_empty.symm
  | cons p ps ih =>
   intro acc
   obtain ⟨⟨cs⟩⟩ := p
   rw [List.foldl_cons, ih, List.flatMap_cons, <- List.append_toArray, <- Array.append_assoc]
   congr 2
 unfold Builtin.Str.glued
 rw [g]
 cases ps with
 | nil => rfl
 | cons p ps =>
  obtain ⟨⟨cs⟩⟩ := p
  rw [List.flatMap_cons, <- List.append_toArray]
  rfl
theorem fold_len (ps : List Str) : ∀ (k : Nat), ps.foldl (fun acc p => acc + p.length + Str.empty.length) k = k + (ps.flatMap fun p => p.cps.toList).length := by
 induction ps with
 | nil => exact fun _ => rfl
 | cons p ps ih =>
  intro k
  rw [List.foldl_cons, ih, List.flatMap_cons, List.length_append, <- Nat.add_assoc]
  rfl
theorem join_tel (ro : Rel w κ o o') (r : Rels w κ args args') : TelT w base κ rest (Rel w) σ (bmJoin o args) (wpAny (model prg w) A (PySem.call (.builtin "str.join") (o' :: args'))) := by
 delta bmJoin
 refine .str ro fun z t _ e _ => .one (W := fun as => wpAny (model prg w) A (PySem.call (.builtin "str.join") (o' :: as))) r fun u u' ru => .listV ru fun xs y ys _ e' f rr => .guard fun hz => .lift fun rs hr => .guard fun hc => .rd fun s E Q l D k => ?_
 obtain rfl := of_decide_eq_true hz
 subst e e'
 rw [Bool.and_eq_true] at hc
 have hq : ∀ {κ3 : Kw} {tk : Tok}, isQ rs = true -> tk ≠ 0 /\ κ3.τ.f tk = rs := fun h => by rw [h] at hc; exact absurd hc.2 (by decide)
 have hlen := (of_decide_eq_true hc.1).2
 obtain ⟨ps, rfl, rfl⟩ := join_strs hr rr
 have hfm : ((ps.map (·.1)).flatMap fun p => p.cps.toList) = ps.flatMap fun p => p.1.cps.toList := List.flatMap_map ..
 have gl : Builtin.Str.glued Str.empty (ps.map (·.1)) = ⟨(ps.flatMap fun p => p.1.cps.toList).toArray⟩ := by rw [glued_empty, hfm]
 refine call_meets F.slot_str_join (typeIs_str _ _ _) F.entry_str_join (F.args_str_join_2 _ _) (meets_str_join_list Str.empty t y ps ?_) ⟨(D.st.frz f).list, ?_⟩
 ·unfold Builtin.Str.tooLong
  rw [List.foldl_toArray, fold_len, hfm, Nat.zero_add]
  exact decide_eq_false (Nat.not_lt.mpr (sz (by rw [<- List.size_toArray]; exact hlen)))
 ·have big : (Builtin.Str.glued Str.empty (ps.map (·.1))).length <= sizeLine := by
   rw [gl]; exact sz hlen
  clear hr hc f rr r ru
  cases ps with
  | nil => exact ⟨big, k _ _ ⟨_, by rw [gl], hq⟩⟩
  | cons p ps =>
   cases ps with
   | nil =>
    obtain ⟨⟨⟨cs⟩⟩, tk⟩ := p
    exact k (.str ⟨cs.toArray⟩ tk) s.toks ⟨tk, by rw [List.flatMap_cons, List.flatMap_nil, List.append_nil], hq⟩
   | cons q ps => exact ⟨big, k _ _ ⟨_, by rw [gl], hq⟩⟩
theorem subAt_one (cs : List Nat) (c i : Nat) (h : i < cs.length) : Builtin.Str.subAt ⟨cs.toArray⟩ ⟨#[c]⟩ i = decide (cs[i] = c) := by
 unfold Builtin.Str.subAt
 have : (cs.toArray.extract i (i + (⟨#[c]⟩ : Str).length)) = #[cs[i]] := by
  show cs.toArray.extract i (i + 1) = _
  apply Array.ext
  ·simp; lia
  ·intro j h1 h2
   simp at h2
   subst h2
   simp
 show (cs.toArray.extract i (i + (⟨#[c]⟩ : Str).length) == #[c]) = _
 rw [this]
 by_cases q : cs[i] = c
 ·subst q; simp
 ·simp [q]
theorem occ_count_aux (cs : List Nat) (c : Nat) : ∀ (m i : Nat) (found : Array Nat) (free : Nat), i + m = cs.length + 1 -> free <= i -> found.size <= i ->
  (forIn (List.range' i m) (found, free) (StrLaws.occBody ⟨cs.toArray⟩ ⟨#[c]⟩ cs.length (cs.length + 1))).run.fst.size = found.size + (cs.drop i).count c
 | 0, i, found, free, hm, hf, hs => by
  simp
  rw [List.drop_eq_nil_of_le (by lia)]
  simp
 | m + 1, i, found, free, hm, hf, hs => by
  rw [List.range'_succ, List.forIn_cons]
  unfold StrLaws.occBody
  by_cases hi : i < cs.length
  ·have hd : cs.drop i = cs[i] :: cs.drop (i + 1) := List.drop_eq_getElem_cons hi
   rw [hd, List.count_cons]
   by_cases q : cs[i] = c
   ·rw [if_pos ⟨⟨⟨by show found.size < _; lia, hf⟩, by show i + 1 <= _; lia⟩, by rw [subAt_one cs c i hi]; simpa using q⟩]
    have := occ_count_aux cs c m (i + 1) (found.push i) (i + 1) (by lia) (Nat.le_refl _) (by simp; lia)
    simp only [Array.size_push] at this
    show (forIn (List.range' (i + 1) m) (found.push i, i + 1) (StrLaws.occBody ⟨cs.toArray⟩ ⟨#[c]⟩ cs.length (cs.length + 1))).run.fst.size = _
    rw [this]
    simp [q]; lia
   ·rw [if_neg fun h => q (by have := h.2; rw [subAt_one cs c i hi] at this; simpa using this)]
    have := occ_count_aux cs c m (i + 1) found free (by lia) (by lia) (by lia)
    show (forIn (List.range' (i + 1) m) (found, free) (StrLaws.occBody ⟨cs.toArray⟩ ⟨#[c]⟩ cs.length (cs.length + 1))).run.fst.size = _
    rw [this]
    simp [q]
  ·rw [if_neg fun h => by have h1 : i + 1 <= cs.length := h.1.2; lia]
   have := occ_count_aux cs c m (i + 1) found free (by lia) (by lia) (by lia)
   show (forIn (List.range' (i + 1) m) (found, free) (StrLaws.occBody ⟨cs.toArray⟩ ⟨#[c]⟩ cs.length (cs.length + 1))).run.fst.size = _
   rw [this, List.drop_eq_nil_of_le (by lia), List.drop_eq_nil_of_le (by lia)]
theorem count_chars (cs : List Nat) (c : Nat) : (cs.map fun c => (⟨#[c]⟩ : Str)).count ⟨#[c]⟩ = cs.count c := by
 induction cs with
 | nil => rfl
 | cons d cs ih =>
  rw [List.map_cons, List.count_cons, List.count_cons, ih]
  congr 1
  by_cases q : d = c
  ·subst q; simp
  ·have : (⟨#[d]⟩ : Str) ≠ ⟨#[c]⟩ := fun h => q (by injection h with h; injection h with h; injection h)
   simp [q, this]
theorem occ_count (z u : Str) (hu : u.length = 1) : (Builtin.Str.occurrences z u 0 z.length (z.length + 1)).length = (chars z).count u := by
 obtain ⟨⟨cs⟩⟩ := z
 obtain ⟨⟨ds⟩⟩ := u
 match ds, hu with
 | [c], _ =>
  rw [StrLaws.occ_eq, Array.length_toList]
  have := occ_count_aux cs c (cs.length + 1) 0 #[] 0 (by lia) (Nat.le_refl _) (Nat.le_refl _)
  show (forIn (List.range' 0 (cs.length + 1 - 0)) (#[], 0) (StrLaws.occBody ⟨cs.toArray⟩ ⟨#[c]⟩ cs.length (cs.length + 1))).run.fst.size = _
  rw [Nat.sub_zero, this]
  unfold chars
  rw [count_chars]
  simp
theorem strcount_tel (ro : Rel w κ o o') (r : Rels w κ args args') : TelT w base κ rest (Rel w) σ (bmStrCount o args) (wpAny (model prg w) A (PySem.call (.builtin "str.count") (o' :: args'))) := by
 delta bmStrCount
 refine .str ro fun z t _ e _ => .one (W := fun as => wpAny (model prg w) A (PySem.call (.builtin "str.count") (o' :: as))) r fun u u' ru => .str ru fun y t' _ e' _ => .guard fun hc => .rd fun s E Q l D k => ?_
 subst e e'
 refine call_gives F.slot_str_count (typeIs_str _ _ _) F.entry_str_count (F.args_str_count_2 _ _) (gives_str_count z y t t') ?_
 rw [occ_count z y (of_decide_eq_true hc).1]
 exact k _ _ ⟨_, rfl⟩
theorem callBm_tel {id : String} (ro : Rel w κ o o') (r : Rels w κ args args') : TelT w base κ rest (Rel w) σ (callBm base id o args) (wpAny (model prg w) A (PySem.call (.builtin id) (o' :: args'))) :=
 .ite (fun q => q ▸ append_tel ro r) fun _ => .ite (fun q => q ▸ pop_tel ro r) fun _ => .ite (fun q => q ▸ insert_tel ro r) fun _ => .ite (fun q => q ▸ extend_tel ro r) fun _ => .ite (fun q => q ▸ count_tel ro r) fun _ =>
  .ite (fun q => q ▸ join_tel ro r) fun _ => .ite (fun q => q ▸ strcount_tel ro r) fun _ => .ite (fun q => q ▸ get_tel ro r) fun _ => .ite (fun q => q ▸ items_tel ro r) fun _ => .ite (fun q => q ▸ values_tel ro r) fun _ => .fail
theorem noStar_all {es : List Expr} (h : (backTo pos (starEach es env)).any (·.1) = false) : (backTo pos (starEach es env)).all (fun x => !x.1) = true := by
 rw [List.all_eq_true]
 intro x hx
 have := List.any_eq_false.mp h x hx
 rw [Bool.not_eq_true']
 exact Bool.eq_false_iff.mpr this
theorem mcall_head {e1 : Expr} {m : Str} {ap : Pos} {es : List Expr} {r} (hc : notCall0 e1 = true) (h5 : (ap.endLine == pos.line) = true) (hl : es.length < 30) (q3 : evs L es fr σ = some r) : eval (.Call (.Attribute e1 m ap) es [] pos) env = (do
   let ov <- eval e1 env
   standAt ap.atName
   let (f, first) <- holding [ov] (getMethod ov m (do return (<- importBound e1 env).getD true))
   callWith pos f first (backTo pos (starEach es env)) []) := by
 have h2 : methodCallForm (es.length + 0) (backTo pos (starEach es env)) (backToKw pos (keywordEach [] env)) = true := by
  unfold methodCallForm
  rw [noStar_all (noStar es q3)]
  exact decide_eq_true hl
 show (attributeBase e1 m env (eval e1 env) >>= _) = _
 rw [att_base hc]
 show (eval e1 env >>= fun ov => standAt ap.atName >>= fun _ => methodCall e1 m ap pos env ov (es.length + 0) (backTo pos (starEach es env)) (backToKw pos (keywordEach [] env))) = _
 unfold methodCall
 rw [h2]
 unfold calleeOf methodCallPos
 simp only [h5, if_true, Bool.not_true, Bool.false_or]
 rfl
theorem evMeth_tel (I : Snd L n) (C : Ctx' w n A κ fr env bs rest) (OK : Ok (n + 1) A) {e1 : Expr} {m : Str} {ap : Pos} {es : List Expr} : TelT w fr.base κ rest (Rel w) σ (evMeth L e1 m ap es pos fr) (wpAny (model prg w) A (eval (.Call (.Attribute e1 m ap) es [] pos) env)) := by
 refine .guard fun hc => ?_
 rw [Bool.and_eq_true, Bool.and_eq_true] at hc
 have key : TelF w fr.base κ rest (FT w rest (Rel w)) σ (L.ev e1 fr >>= fun ov => methTag ov m >>= fun t => evs L es fr >>= fun vs => callM L fr.base t ov vs)
   fun Q E => wpAny (model prg w) A (eval e1 env) (fun ov => wpAny (model prg w) A (getMethod ov m (do return (<- importBound e1 env).getD true)) (fun r => wpAny (model prg w) A (callWith pos r.1 r.2 (backTo pos (starEach es env)) []) (fun x s => Q x s) E) E) E :=
  .bind (I.e C σ) fun {_ ov o' _} k1 r1 => .bind (methTag_tel (C.T.mono k1.h) r1) fun {_ t r _} k2 hf => by
   have C2 := C.mono (k1.trans k2)
   cases t with
   | fn f =>
    obtain ⟨rfl, hk⟩ := hf
    exact callW I C2 (keep_con C2.T hk) fun {κ3 vs vs' _} k3 r3 => (I.call (C2.T.mono k3.h) C.ok (show Rel w κ3 (.con (.ref f)) (.ref f) from rfl) (show Rels w κ3 (ov :: vs) (o' :: vs') from ⟨_, _, rfl, Rel.mono (k2.trans k3) _ _ r1, r3⟩) _).toF
   | bi id =>
    have hf : r = (.builtin id, [o']) := hf
    subst hf
    exact callW I C2 (keep_con C2.T fun K F => rfl) fun k3 r3 => (callBm_tel (Rel.mono (k2.trans k3) _ _ r1) r3).toF
   | strm =>
    have hf : r = (o', []) := hf
    subst hf
    cases ov with
    | strm c =>
     obtain ⟨a2, c2, hk2, rfl, xs2⟩ := id r1
     obtain ⟨d, fd, fi2, osl, e, nn, q1', q2', q3', q4', q5', q6', q7', q8', q9', q10', q11'⟩ := id xs2
     refine callW I C2 (fun h k => keeps_F h ⟨_, _, _, _, k _ _ (k2.h _ _ e)⟩) fun k3 r3 => .lift fun fi hfi => TelT.toF fun v σ' hm hbl s E Q S hQ => ?_
     rw [q1'] at hfi; cases hfi
     have kk := k2.trans k3
     exact wpAny_call (callFn_code (cl := [(attS "signs", c)]) I (C2.T.mono k3.h) OK.room (fun _ => OK.deeper) ⟨⟨_, kk.h _ _ e, rfl⟩, q2', q3', q4', q5', by rw [q6']; exact ⟨c2, [], rfl, kk.get hk2, rfl⟩, q7'.keeps kk.h, q8', q9', q10', q11'⟩ r3 v σ' hm hbl s _ S hQ)
    | _ => exact fun a σ' hm => bindC hm fun _ _ _ h => nomatch h
 exact fun v σ' hm hbl s E Q S k => bindC hm fun _ _ _ h1 => bindC h1 fun _ _ _ h2 => bindC h2 fun _ _ q3 _ => MethodCall_ (he := mcall_head hc.1 hc.2.1 (of_decide_eq_true hc.2.2) q3) (key.toT v σ' hm hbl s E Q S k)
end
section
variable {w : World} {A : Around} {base n : Nat} {κ : Kw} {rest l ow ow' : List (Addr × Sh)} {σ σ' : List O} {h h' h₀ : Heap} {v a b : V} {v' a' b' : Value} {vs : List V} {vs' : List Value} {s : Shared} {E : Value -> Shared -> Prop} {fr fr' : Fr} {env : Env} {bs : List (Str × Value)} {L : Lv} {p pos : Pos} {x : Addr} {R : Result -> Shared -> Prop}
theorem TelT.map {α β δ : Type} {R : Kw -> α -> β -> Prop} {R1 : Kw -> α -> δ -> Prop} {m : M α} {W1 : Tr δ} {W2 : δ -> Tr β} (h1 : TelT w base κ rest R1 σ m W1) (h2 : ∀ {κ' a b}, R1 κ' a b -> ∀ {Q E s}, (∀ c, R κ' a c -> Q c s) -> W2 b Q E s) :
  TelT w base κ rest R σ m fun Q E => W1 (fun b => W2 b Q E) E := fun a σ' hm hb s E Q S k => h1 a σ' hm hb s E _ S fun κ' b s' k1 r S1 p => h2 r fun c rc => k κ' c s' k1 rc S1 p
theorem all_tel (I : Snd L n) {op : BoolOp} (es : List Expr) : ∀ {κ : Kw}, Ctx' w n A κ fr env bs rest -> Tel w A fr.base κ rest (fun _ b c => c = b) (trAll L op es fr) (allTrue op es env) := by
 induction es with
 | nil =>
  intro κ C σ
  cases op with
  | And => exact .rd fun s E Q l D k => wpAny_allTrue_And_nil (k _ s.toks rfl)
  | Or => exact .rd fun s E Q l D k => wpAny_allTrue_Or_nil (k _ s.toks rfl)
 | cons e es ih =>
  intro κ C σ
  refine .imp (.bind (W2 := fun b Q E s => if goesOn op b = true then wpAny (model prg w) A (allTrue op es env) Q E s else Q b s) (I.t C σ) fun k1 r1 => r1 ▸ .ite (fun c => .imp (ih (C.mono k1) _) fun Q E s h => by rw [if_pos c]; exact h) fun c => .imp (.done _ rfl) fun Q E s h => by rw [if_neg c]; exact h) fun Q E s h => ?_
  cases op with
  | And => exact wpAny_allTrue_And_cons (wpAny_mono h (fun b s h => by cases b <;> exact h) fun _ _ h => h)
  | Or => exact wpAny_allTrue_Or_cons (wpAny_mono h (fun b s h => by cases b <;> exact h) fun _ _ h => h)
theorem tr_cmpK (I : Snd L n) (C : Ctx' w n A κ fr env bs rest) (OK : Ok (n + 1) A) {e1 e2 : Expr} {op : CmpOp} {whole : Sem Value} : TelT w fr.base κ rest (fun _ b c => c = b) σ (cmp1 L op e1 e2 fr) (wpAny (model prg w) A (PySem.isTrue (.Compare e1 [op] [e2] pos) env whole)) :=
 .guard fun c => .imp (.bind (I.e C σ) fun k1 r1 => .bind (I.e (C.mono k1) _) fun k2 r2 => .map (W2 := fun v => wpAny (model prg w) A (truthy v)) (cmp_tel OK.one (Rel.mono k2 _ _ r1) r2 _) fun e Q E s k => e ▸ wpAny_truthy_bool (k _ rfl)) fun Q E s h => wpAny_isTrue_Compare1 (hm := marks_no c) h
theorem plain_test {e : Expr} {whole : Sem Value} (h : plainTest e = true) : PySem.isTrue e env whole = (do let v <- whole; standAt e.pos; holding [v] (truthy v)) := by
 cases e with
 | UnaryOp => cases h
 | BoolOp => cases h
 | IfExp => cases h
 | Compare => cases h
 | _ => rfl
theorem tr_plain (I : Snd L n) (C : Ctx' w n A κ fr env bs rest) {e : Expr} : TelT w fr.base κ rest (fun _ b c => c = b) σ (trPlain L e fr) (wpAny (model prg w) A (PySem.isTrue e env (eval e env))) :=
 .guard fun c => .imp (.bind (I.e C σ) fun k1 r1 => truth_tel r1 _) fun Q E s h => wpAny_isTrue_value (he := plain_test c) h
theorem fn_inter (F : FrRel w κ fr env bs) : interactive env = false := by
 unfold interactive
 rw [F.scope, F.kind]; rfl
theorem no_swap {e : Expr} {t : Option Expr} {ln : Nat} (h : isCompE e = false) : swapsWith e t ln env = pure false := by
 cases e with
 | ListComp => cases h
 | SetComp => cases h
 | DictComp => cases h
 | _ => rfl
noncomputable abbrev TelS (w : World) (κ : Kw) (rest : List (Addr × Sh)) (env : Env) (bs : List (Str × Value)) (fr : Fr) (σ : List O) (m : M (Fl × Fr)) (W : Tr Flow) : Prop := TelF w fr.base κ ((env.locals, .ns bs) :: rest) (StF w env rest fr.base) σ m W
noncomputable abbrev CtxS (w : World) (n : Nat) (A : Around) (κ : Kw) (fr : Fr) (env : Env) (bs : List (Str × Value)) (rest : List (Addr × Sh)) : Prop := Ctx' w n A κ fr env bs ((env.locals, .ns bs) :: rest)
theorem TelF.st {r : Fl × Fr} (fl : Flow) (h1 : FlR w κ r.1 fl) (F : FrRel w κ r.2 env bs) (hb : r.2.base = base) : TelF w base κ ((env.locals, .ns bs) :: rest) (StF w env rest base) σ (pure r) fun Q _ s => Q fl s := .done fl fun s S => ⟨bs, h1, F, S, hb⟩
theorem sx_expr (I : Snd L n) (C : CtxS w n A κ fr env bs rest) {e : Expr} : TelS w κ rest env bs fr σ (guardM (!isCompE e) >>= fun _ => L.ev e fr >>= fun _ => pure (.next, fr)) (wpAny (model prg w) A (exec (.Expr e pos) env)) :=
 .guard fun c => .imp (.bind (I.e C σ) fun k1 r1 => .st .next rfl (C.F.mono k1) rfl) fun Q E s h => wpAny_Expr_any (hi := fn_inter C.F) (hs := no_swap (Bool.not_eq_true' _ |>.mp c)) h
theorem sx_ret (I : Snd L n) (C : CtxS w n A κ fr env bs rest) {o : Option Expr} : TelS w κ rest env bs fr σ (liftO o >>= fun e => L.ev e fr >>= fun v => pure (.ret v, fr)) (wpAny (model prg w) A (exec (.Return o pos) env)) :=
 .lift fun e h => h ▸ .imp (.bind (I.e C σ) fun {_ _ x _} k1 r1 => .st (.ret x) ⟨x, rfl, r1⟩ (C.F.mono k1) rfl) fun Q E s h => wpAny_Return_some h
theorem sx_cont (C : CtxS w n A κ fr env bs rest) : TelS w κ rest env bs fr σ (pure (.cont, fr)) (wpAny (model prg w) A (exec (.Continue pos) env)) :=
 .imp (.st .cont rfl C.F rfl) fun Q E s h => wpAny_Continue h
theorem sx_if (I : Snd L n) (C : CtxS w n A κ fr env bs rest) {t : Expr} {a b : List Stmt} : TelS w κ rest env bs fr σ (L.tr t fr >>= fun c => if c then L.exs a fr else L.exs b fr) (wpAny (model prg w) A (exec (.If t a b pos) env)) :=
 .imp (.bind (W2 := fun c Q E s => if c = true then wpAny (model prg w) A (execs a env) Q E s else wpAny (model prg w) A (execs b env) Q E s) (I.t C σ) fun k1 r1 => r1 ▸ .ite (fun c => .imp (I.exs (C.T.mono k1.h) C.ok (C.F.mono k1) rfl _) fun Q E s h => by rw [if_pos c]; exact h) fun c => .imp (I.exs (C.T.mono k1.h) C.ok (C.F.mono k1) rfl _) fun Q E s h => by rw [if_neg c]; exact h) fun Q E s h => wpAny_If h
theorem each_one {t : Expr} (h : isTgt t = true) : (assignEach [t] env).map (·.2) = [assign t env] := by
 cases t with
 | Starred => cases h
 | _ => rfl
theorem sw_none {t e : Expr} (h : isTgt t = true) (h2 : (!(isTupE t && isTupE e)) = true) : swappedStores [t] e env = pure none := by
 cases t with
 | Name => rfl
 | Subscript => rfl
 | Attribute => rfl
 | Tuple =>
  cases e with
  | Tuple => cases h2
  | _ => rfl
 | _ => cases h
theorem asg_end (C : CtxS w n A κ fr env bs rest) (I : Snd L n) {t e : Expr} {m : M V} (hv : TelT w fr.base κ ((env.locals, .ns bs) :: rest) (Rel w) σ m (wpAny (model prg w) A (eval e env))) (ht : isTgt t = true) (h2 : (!(isTupE t && isTupE e)) = true)
  (hsw : swapsWith e (some t) pos.line env = pure false) : TelS w κ rest env bs fr σ (m >>= fun v => asg L t v fr >>= fun fr' => pure (.next, fr')) (wpAny (model prg w) A (exec (.Assign [t] e pos) env)) :=
 .imp (.bind hv fun k1 r1 => .frm (asg_tel I C.ok.hh (C.T.mono k1.h) C.ok (C.F.mono k1) rfl r1) fun k2 F2 b2 _ => .st .next rfl F2 b2) fun Q E s h => by
  refine wpAny_Assign_stores (hs := hsw) (hw := sw_none ht h2) ?_
  rw [each_one ht]; exact h
theorem comp_used {D Cc : Addr} {sh : Sh} {bsC : List (Str × Value)} {σ1 σ2 : List O} {xn : Str} {Q : Flow -> Shared -> Prop} (F : FrRel w κ fr env bs) (hm : asg1 xn v fr σ2 = some (fr', σ')) (hbl : fr.base <= σ1.length) (S : Sim w κ s σ1 ((Cc, .ns bsC) :: (D, sh) :: (env.locals, .ns bs) :: rest))
  (res : ∀ {rest' l'}, Led w κ s.heap σ1 rest' l' -> St w κ.h s.heap ((D, sh) :: l') -> ∃ κ2, Kle κ κ2 /\ κ2.τ = κ.τ /\ Rel w κ2 v (.ref D) /\ Simh w κ2 s.heap σ2 rest' /\ Pres fr.base σ1 σ2)
  (hQ : ∀ κ2 s', Kle κ κ2 -> FrF w env rest fr.base κ2 fr' () σ' s' -> Pres fr.base σ1 σ' -> Q .next s') : compPost (model prg w) A E (some (assign (.Name xn pos) env)) (fun _ => Q .next) (.ref D) Cc (.ok .next) s := by
 have S' := S.rPm (rest' := (D, sh) :: (env.locals, .ns bs) :: (Cc, .ns bsC) :: rest) (((List.Perm.swap _ _ _).trans (.cons _ (.swap _ _ _))))
 refine hd fun P0 q0 => ?_
 obtain ⟨l, Dl, S1⟩ := S'.pop
 obtain ⟨κ2, k2, et, r2, S2, p2⟩ := res Dl S1
 refine q0 ?_
 refine wpAny_assign_Name (storeName_tel (F.mono k2) rfl r2 _ _ hm (Nat.le_trans hbl p2.len) s _ _ ⟨S2, S.tk.same et⟩ fun κ3 _ s' k3 ⟨bs', F', S3, e1⟩ p3 => ?_)
 have S4 := S3.rPm (rest' := (Cc, .ns bsC) :: (env.locals, .ns bs') :: rest) (.swap _ _ _)
 refine hd fun P0 q0 => ?_
 obtain ⟨l4, D4, S5⟩ := S4.pop
 refine q0 ?_
 exact ⟨_, (S5.has (.head _)).ns, fun h' hs => hQ κ3 _ (k2.trans k3) ⟨bs', F', ⟨D4.back _ (S5.gone .head hs.extBut), S3.tk⟩, e1⟩ (p2.trans p3)⟩
theorem sx_list_used (I : Snd L n) (C : CtxS w n A κ fr env bs rest) {elt : Expr} {gens : List Comprehension} {sc : Scope} {cpos tp : Pos} {xn : Str} (hsw : swapsWith (.ListComp elt gens sc cpos) (some (.Name xn tp)) pos.line env = pure true) :
  TelS w κ rest env bs fr σ (evStep L (.ListComp elt gens sc cpos) fr >>= fun v => asg L (.Name xn tp) v fr >>= fun fr' => pure (.next, fr')) (wpAny (model prg w) A (exec (.Assign [.Name xn tp] (.ListComp elt gens sc cpos) pos) env)) := fun r σ' hm hbl s E Q S hQ =>
 bindC hm fun v1 σ1 q0 hm1 => bindC hm1 fun fr1 σ2 q2 hm2 => bindC q0 fun outs σ3 q1 hm3 => by
 clear hm hm1 q0
 cases hm2
 cases gens with
 | nil => cases q1
 | cons g gs =>
 obtain ⟨hs, ha⟩ := comp_sync q1
 rw [exec_Assign_Name_used _ _ _ _ hsw]
 refine wpAny_bind (wpAny_standAt (wpAny_bind ?_))
 show wpAny _ A (do let _ <- comprehension _ sc env _ (newList []) (firstAsync (g :: gs)) (firstIter (g :: gs) env) (some (assign (.Name xn tp) env))) _ _ s
 rw [ha]
 obtain ⟨tg, gi, gf, as⟩ := g
 refine wpAny_bind (wpAny_mono (comp_core (use := some (assign (.Name xn tp) env)) (Q := fun _ s' => Q .next s') (AccR := ListAcc w) I C (fun D env => comp_list I C.ok hs D env) newL_new (fun {h ρ τ b xs sh} ho ⟨xs', e, r⟩ => ⟨xs', e, Rels.cut _ _ r (V.simples.bel ho)⟩) q1 hbl S fun κ1 sh D Cc bsC s1 k1 ha1 hl S1 p1 => ?_) (fun _ s' hq => wpAny_pure (wpAny_pure hq)) fun _ _ e => e)
 obtain ⟨xs', rfl, rr⟩ := ha1
 exact comp_used (C.F.mono k1) q2 (Nat.le_trans hbl p1.len) S1 (fun Dl S3 => newL_fin Dl S3 rr hm3 S1.len) fun κ2 s' k2 ⟨bs', F', S4, e1⟩ p2 => hQ κ2 .next s' (k1.trans k2) ⟨bs', rfl, F', S4, e1⟩ (p1.trans p2)
theorem sx_dict_used (I : Snd L n) (C : CtxS w n A κ fr env bs rest) {ke ve : Expr} {gens : List Comprehension} {sc : Scope} {cpos tp : Pos} {xn : Str} (hsw : swapsWith (.DictComp ke ve gens sc cpos) (some (.Name xn tp)) pos.line env = pure true) :
  TelS w κ rest env bs fr σ (evStep L (.DictComp ke ve gens sc cpos) fr >>= fun v => asg L (.Name xn tp) v fr >>= fun fr' => pure (.next, fr')) (wpAny (model prg w) A (exec (.Assign [.Name xn tp] (.DictComp ke ve gens sc cpos) pos) env)) := fun r σ' hm hbl s E Q S hQ =>
 bindC hm fun v1 σ1 q0 hm1 => bindC hm1 fun fr1 σ2 q2 hm2 => bindC q0 fun outs σ3 q1 hm3 => by
 clear hm hm1 q0
 cases hm2
 cases gens with
 | nil => cases q1
 | cons g gs =>
 obtain ⟨hs, ha⟩ := comp_sync q1
 rw [exec_Assign_Name_used _ _ _ _ hsw]
 refine wpAny_bind (wpAny_standAt (wpAny_bind ?_))
 show wpAny _ A (do let _ <- comprehension _ sc env _ newDict (firstAsync (g :: gs)) (firstIter (g :: gs) env) (some (assign (.Name xn tp) env))) _ _ s
 rw [ha]
 obtain ⟨tg, gi, gf, as⟩ := g
 refine wpAny_bind (wpAny_mono (comp_core (use := some (assign (.Name xn tp) env)) (Q := fun _ s' => Q .next s') (AccR := DictAcc w) I C (fun D env => comp_dict I C.ok hs D env) newD_new (fun {h ρ τ b xs sh} ho ⟨xs', e, r⟩ => ⟨xs', e, Reld.cut _ _ r (dictV_bel xs ho trivial)⟩) q1 hbl S fun κ1 sh D Cc bsC s1 k1 ha1 hl S1 p1 => ?_) (fun _ s' hq => wpAny_pure (wpAny_pure hq)) fun _ _ e => e)
 obtain ⟨xs', rfl, rr⟩ := ha1
 exact comp_used (C.F.mono k1) q2 (Nat.le_trans hbl p1.len) S1 (fun Dl S3 => newD_fin Dl S3 rr hm3 S1.len) fun κ2 s' k2 ⟨bs', F', S4, e1⟩ p2 => hQ κ2 .next s' (k1.trans k2) ⟨bs', rfl, F', S4, e1⟩ (p1.trans p2)
theorem swaps_no {e t : Expr} {ln : Nat} (h0 : isTgt t = true) (h : isNm t = false) : swapsWith e (some t) ln env = pure false := by
 cases t with
 | Name => cases h
 | Tuple | Subscript | Attribute => unfold swapsWith; split <;> rfl
 | _ => cases h0
theorem sx_nm {e t : Expr} {m : M V} (I : Snd L n) (C : CtxS w n A κ fr env bs rest) (hv : TelT w fr.base κ ((env.locals, .ns bs) :: rest) (Rel w) σ m (wpAny (model prg w) A (eval e env))) (ht : isTgt t = true) (h2 : (!(isTupE t && isTupE e)) = true)
  (hsw : ∀ xn tp, t = .Name xn tp -> (swapsWith e (some t) pos.line env = pure true /\ TelS w κ rest env bs fr σ (m >>= fun v => asg L t v fr >>= fun fr' => pure (.next, fr')) (wpAny (model prg w) A (exec (.Assign [t] e pos) env))) ∨ swapsWith e (some t) pos.line env = pure false) :
  TelS w κ rest env bs fr σ (m >>= fun v => asg L t v fr >>= fun fr' => pure (.next, fr')) (wpAny (model prg w) A (exec (.Assign [t] e pos) env)) := by
 cases hn : isNm t with
 | false => exact asg_end C I hv ht h2 (swaps_no ht hn)
 | true =>
  cases t with
  | Name xn tp => exact (hsw xn tp rfl).elim (·.2) (asg_end C I hv ht h2)
  | _ => cases hn
theorem bool_pure (b : Bool) : (pure b : Sem Bool) = pure true ∨ (pure b : Sem Bool) = pure false := by cases b with
 | true => exact .inl rfl
 | false => exact .inr rfl
theorem sx_asg (I : Snd L n) (C : CtxS w n A κ fr env bs rest) {ts : List Expr} {e : Expr} : TelS w κ rest env bs fr σ (liftO (one ts) >>= fun t => guardM (isTgt t && !(isTupE t && isTupE e)) >>= fun _ => evA L e fr >>= fun v => asg L t v fr >>= fun fr' => pure (.next, fr')) (wpAny (model prg w) A (exec (.Assign ts e pos) env)) := by
 refine .lift fun t q => .guard fun hc => ?_
 rw [one_inv q]
 obtain ⟨h1, h2⟩ := Bool.and_eq_true_iff.mp hc
 unfold evA
 cases he : isCompE e with
 | false => exact asg_end C I (I.e C σ) h1 h2 (no_swap he)
 | true =>
  cases e with
  | ListComp elt gens sc cpos =>
   refine sx_nm I C (st_listcomp I C) h1 h2 fun xn tp e => ?_
   subst e
   exact (bool_pure _).imp (fun h => ⟨h, sx_list_used I C h⟩) fun h => h
  | DictComp ke ve gens sc cpos =>
   refine sx_nm I C (st_dictcomp I C) h1 h2 fun xn tp e => ?_
   subst e
   exact (bool_pure _).imp (fun h => ⟨h, sx_dict_used I C h⟩) fun h => h
  | SetComp => exact fun a σ' hm => bindC hm fun _ _ e _ => nomatch e
  | _ => cases he
theorem loadLoc {xn : Str} (C : Ctx' w n A κ fr env bs rest) (h : fr.kind xn = some .local) : Tel w A base κ rest (Rel w) (name xn fr) (loadName env xn) := fun σ => by
 delta name
 refine .lift fun c e => ?_
 rw [h] at e
 cases e
 refine .lift1 fun v e => .rd fun s E Q l D k => ?_
 obtain ⟨v', hb, rv⟩ := C.F.loc xn v (Option.join_eq_some_iff.mp e)
 exact wpAny_loadName_local (by rw [C.F.scope]; exact C.F.kind) ((C.F.kindOf xn).trans h) (D.st.has (D.sub _ C.mem)).ns hb (k _ s.toks rv)
theorem aug_store {i : Expr} (h : notSlice i = true) (ov iv new : Value) : augStore i ov iv new = (do holding [new, ov, iv] (PySem.setItem ov iv new); release [new, ov, iv] []; pure .next) := by
 cases i with
 | Slice => cases h
 | _ => rfl
theorem sx_aug (I : Snd L n) (C : CtxS w n A κ fr env bs rest) {t : Expr} {op : Operator} {e : Expr} : TelS w κ rest env bs fr σ (augStep L t op e fr) (wpAny (model prg w) A (exec (.AugAssign t op e pos) env)) := by
 cases t with
 | Name xn tp =>
  exact .guard fun c => .imp (.bind (loadLoc C (eq_of_beq c) σ) fun k1 r1 => .bind (I.e (C.mono k1) _) fun k2 r2 => .bind (augop_tel (Rel.mono k2 _ _ r1) r2 _) fun k3 r3 => .frm (storeName_tel (C.F.mono (k1.trans (k2.trans k3))) rfl r3) fun _ F4 b4 _ => .st .next rfl F4 b4) fun Q E s h => wpAny_AugAssign_Name h
 | Subscript o i tp =>
  exact .guard fun c => .imp (.bind (I.e C σ) fun k1 r1 => .bind (I.e (C.mono k1) _) fun k2 r2 => .bind (getItem_tel (Rel.mono k2 _ _ r1) r2 _) fun k3 r3 => .bind (I.e (C.mono (k1.trans (k2.trans k3))) _) fun k4 r4 => .bind (augop_tel (Rel.mono k4 _ _ r3) r4 _) fun k5 r5 =>
   .bind (setItem_tel (Rel.mono (k2.trans (k3.trans (k4.trans k5))) _ _ r1) (Rel.mono (k3.trans (k4.trans k5)) _ _ r2) r5 _) fun k6 _ => .st .next rfl (C.F.mono (k1.trans (k2.trans (k3.trans (k4.trans (k5.trans k6)))))) rfl) fun Q E s h => wpAny_AugAssign_SubscriptAny h (aug_store c)
 | Attribute o nm tp =>
  exact .imp (.bind (I.e C σ) fun k1 r1 => .bind (getAtt_tel (C.T.mono k1.h) r1 _) fun k3 r3 => .bind (I.e (C.mono (k1.trans k3)) _) fun k4 r4 => .bind (augop_tel (Rel.mono k4 _ _ r3) r4 _) fun k5 r5 =>
   .bind (setAtt_tel (C.T.mono (k1.trans (k3.trans (k4.trans k5))).h) (Rel.mono (k3.trans (k4.trans k5)) _ _ r1) r5 _) fun k6 _ => .st .next rfl (C.F.mono (k1.trans (k3.trans (k4.trans (k5.trans k6))))) rfl) fun Q E s h => wpAny_AugAssign_AttributeAny h
 | _ => exact .fail
end
theorem slot_citer_next : Slot "callable_iterator" "__next__" "callable_iterator.__next__" :=
 .of (owner := "callable_iterator") (n := "__next__") (by rw [typeLookup_type, builtinLookup_eq_fast]; kernel_rfl) (by decide +kernel) (by decide +kernel) (by decide +kernel)
  (by first | exact .inl (by decide +kernel) | exact .inr (by decide +kernel)) (by rw [isSubtype_type]; kernel_rfl)
theorem slot_citer_iter : Slot "callable_iterator" "__iter__" "callable_iterator.__iter__" :=
 .of (owner := "callable_iterator") (n := "__iter__") (by rw [typeLookup_type, builtinLookup_eq_fast]; kernel_rfl) (by decide +kernel) (by decide +kernel) (by decide +kernel)
  (by first | exact .inl (by decide +kernel) | exact .inr (by decide +kernel)) (by rw [isSubtype_type]; kernel_rfl)
theorem entry_citer_next : entryFor table "callable_iterator.__next__" = some Builtin.«callable_iterator.__next__» := entryFor_of_fast (by kernel_rfl)
theorem entry_citer_iter : entryFor table "callable_iterator.__iter__" = some Builtin.«dict_keyiterator.__iter__» :=
 entryFor_alias (id' := "dict_keyiterator.__iter__") (by kernel_rfl) rfl (by decide +kernel) (by kernel_rfl)
theorem args_citer_next (a : Value) : argsOk "callable_iterator.__next__" ⟨[a], []⟩ := by unfold argsOk; kernel_rfl
theorem args_citer_iter (a : Value) : argsOk "callable_iterator.__iter__" ⟨[a], []⟩ := by unfold argsOk; kernel_rfl
section
variable {w : World} {A : Around} {s : Shared} {E : Value -> Shared -> Prop}
theorem citer_iter {a : Addr} {o : Obj} {Q : Value -> Shared -> Prop} (ho : s.heap.get? a = some o) (hc : o.cls = .type "callable_iterator") (h : Q (.ref a) s) : wpAny (model prg w) A (pyIter (.ref a)) Q E s := by
 have hT : s.TypeIs (.ref a) "callable_iterator" := ⟨o, ho, hc⟩
 refine wpAny_pyIter_slot hT slot_citer_iter (wpAny_call_entry slot_citer_iter hT entry_citer_iter ?_ (args_citer_iter _))
 show wpAny _ _ (ret (.ref a)) _ _ s
 exact wpAny_pure ⟨_, rfl, "callable_iterator", _, hT, slot_citer_next.lookup, h⟩
theorem wpAny_callBorrowed {f : Value} {pos : List Value} {M : Model} {Q : Value -> Shared -> Prop} (hc : codeAny M A (.call f ⟨pos, []⟩) (fun r s' => match r with | .ok (.ret v) => Q v s' | .ok _ => False | .error e => E e s') s) :
  wpAny M A (callBorrowed f pos) Q E s := fun Γ p hΓ => by
 unfold callBorrowed
 rw [Sem.wp_call]
 refine wpCode_mono (fun r s' h => ?_) (hc _ p rfl (hΓ.enter _ none p (by intro x; cases x)))
 match r, h with
 | .ok (.ret v), h => exact h
 | .error e, h => exact h
theorem stop_any {α : Type} {Q : α -> Shared -> Prop} (hh : A.handled = none) (h : ∀ h' x, Ext s.heap h' -> (∃ o, h'.get? x = some o /\ o.cls = .type "StopIteration") -> E (.ref x) { s with heap := h' }) : wpAny (model prg w) A (Builtin.SmallTypes.stopIteration : Sem α) Q E s := by
 show wpAny _ _ (newExc (.type "StopIteration") [] >>= _) _ _ _
 refine wpAny_bind ?_
 simp only [newExc, newTuple]
 refine wpAny_bind (wpAny_newObj_type ?_ (by size_fits))
 refine wpAny_bind (m := firstArgMember _ _) (wpAny_of_eq (a := Value.none) (by first | rfl | (simp only [firstArgMember]; rfl)) ?_)
 refine wpAny_newObj_type ?_ (by size_fits)
 simp only [raiseNew]
 refine wpAny_bind (wpAny_handled ?_)
 rw [hh]
 refine wpAny_bind (wpAny_pure (wpAny_throw ?_))
 exact h _ _ (fun b o e => Heap.get?_push_of_some _ (Heap.get?_push_of_some _ e)) ⟨_, Heap.get?_push_size _ rfl, rfl⟩
theorem borrows_meth {m f : Addr} {x : Value} {of : Obj} {fd : FuncData} {Q : Bool -> Shared -> Prop} (hm : s.heap.get? m = some { cls := .type "method", data := .fields #[.ref f, x] }) (hf : s.heap.get? f = some of) (hfd : of.data = .func fd) (h : Q true s) :
  wpAny (model prg w) A (borrowsExactly (.ref m)) Q E s := by
 unfold borrowsExactly
 refine wpAny_bind (wpAny_load hm ?_)
 dsimp only
 rw [if_pos (by rfl)]
 show wpAny _ A (do match (<- load f).data with | .func _ => pure true | _ => pure false) Q E s
 refine wpAny_bind (wpAny_load hf ?_)
 rw [hfd]
 exact wpAny_pure h
theorem setF {a : Addr} {o : Obj} {vs : Array Value} {i : Nat} {x : Value} {Q : Unit -> Shared -> Prop} (ho : s.heap.get? a = some o) (hd : o.data = .fields vs) (hi : i < vs.size)
  (h : ∀ h' o', h'.get? a = some o' -> o'.cls = o.cls -> o'.data = .fields (vs.setIfInBounds i x) -> o'.dict = o.dict -> o'.slots = o.slots -> Heap.SameBut a s.heap h' -> Q () { s with heap := h' }) : wpAny (model prg w) A (setField (.ref a) i x) Q E s := by
 refine wpAny_setField ho hd hi (h _ _ (Heap.get?_update_self _ ho (Obj.isFreed_of_fields (Obj.data_mapFields hd _))) (Obj.cls_mapFields ..) (Obj.data_mapFields hd _) ?_ ?_ (Heap.SameBut.update ..))
 ·unfold Obj.mapFields; split <;> rfl
 ·unfold Obj.mapFields; split <;> rfl
inductive CiterStep (A : Around) (w : World) (a f : Addr) (Q : Option Value -> Shared -> Prop) : Result -> Shared -> Prop
 | mk {s' : Shared} {z : Str} {u : Tok} {o : Obj} {m : Addr} {x : Value} {t : Tok} {of : Obj} {fd : FuncData} : s'.heap.get? a = some o -> o.cls = .type "callable_iterator" -> o.data = .fields #[.ref m, .str Str.empty t, .bool false] ->
   s'.heap.get? m = some { cls := .type "method", data := .fields #[.ref f, x] } -> s'.heap.get? f = some of -> of.data = .func fd -> (z ≠ Str.empty -> Q (some (.str z u)) s') ->
   (z = Str.empty -> ∀ h', Heap.ExtBut a s'.heap h' -> (∃ o', h'.get? a = some o' /\ o'.cls = .type "callable_iterator" /\ o'.data = .fields #[.none, .none, .bool true] /\ o'.dict = o.dict /\ o'.slots = o.slots) -> Q none { s' with heap := h' }) -> CiterStep A w a f Q (.ok (.ret (.str z u))) s'
theorem citer_next {a m f : Addr} {x : Value} {t : Tok} {o of : Obj} {fd : FuncData} {Q : Option Value -> Shared -> Prop} (hh : A.handled = none) (ho : s.heap.get? a = some o) (hcl : o.cls = .type "callable_iterator") (hd : o.data = .fields #[.ref m, .str Str.empty t, .bool false])
  (hm : s.heap.get? m = some { cls := .type "method", data := .fields #[.ref f, x] }) (hf : s.heap.get? f = some of) (hfd : of.data = .func fd)
  (hc : codeAny (model prg w) A.in1 (.call (.ref f) ⟨[x], []⟩) (CiterStep A w a f Q) s) : wpAny (model prg w) A (pyNext (.ref a)) Q E s := by
 have hT : s.TypeIs (.ref a) "callable_iterator" := ⟨o, ho, hcl⟩
 unfold pyNext
 refine wpAny_bind (wpAny_attempt (wpAny_callSpecial?_slot (name := Str.ofString "__next__") hT slot_citer_next
  (wpAny_call_entry slot_citer_next hT entry_citer_next ?_ (args_citer_next _))))
 show wpAny _ _ (field (.ref a) 2 >>= _) _ _ s
 refine wpAny_bind (wpAny_field ho hd (x := .bool false) rfl ?_)
 show wpAny _ _ (if (Value.bool false == Value.bool true) = true then _ else _) _ _ s
 rw [if_neg (show ¬ ((Value.bool false == Value.bool true) = true) by decide)]
 show wpAny _ _ (field (.ref a) 0 >>= _) _ _ s
 refine wpAny_bind (wpAny_field ho hd (x := .ref m) rfl ?_)
 refine wpAny_bind (wpAny_attempt ?_)
 unfold callOutOfASlot
 refine wpAny_bind (borrows_meth hm hf hfd ?_)
 rw [if_pos rfl]
 refine wpAny_callBorrowed (ks_codeAny_call_bound hm (codeAny_mono hc fun r s' hr => ?_))
 obtain ⟨ho2, hc2, hd2, hm2, hf2, hfd2, h1, h2⟩ := hr
 rename_i z u o2 m2 x2 t2 of2 fd2
 dsimp only
 refine wpAny_bind (wpAny_field ho2 hd2 (x := .bool false) rfl ?_)
 show wpAny _ _ (if (Value.bool false == Value.bool true) = true then _ else _) _ _ s'
 rw [if_neg (show ¬ ((Value.bool false == Value.bool true) = true) by decide)]
 refine wpAny_bind (wpAny_field ho2 hd2 (x := .str Str.empty t2) rfl ?_)
 refine wpAny_bind (wpAny_holding ((eqGives_str Str.empty z t2 u).at _ _ prg w _ _ ?_))
 by_cases hz : z = Str.empty
 ·rw [show (Str.empty == z) = true by rw [hz]; exact beq_self_eq_true _]
  simp only [Bool.not_true, Bool.false_eq_true, if_false]
  refine wpAny_bind (wpAny_rule (wpAny_bind ?_))
  show wpAny _ _ (field (.ref a) 0 >>= _) _ _ s'
  refine wpAny_bind (wpAny_field ho2 hd2 (x := .ref m2) rfl ?_)
  refine wpAny_bind ?_
  unfold slotLetsGo
  dsimp only
  refine wpAny_bind (borrows_meth hm2 hf2 hfd2 ?_)
  rw [if_pos rfl]
  refine wpAny_pure ?_
  refine wpAny_bind (setF ho2 hd2 (by simp) fun g1 p1 e1 c1 d1 i1 l1 b1 => ?_)
  refine wpAny_bind (setF (s := { s' with heap := g1 }) e1 d1 (by simp) fun g2 p2 e2 c2 d2 i2 l2 b2 => ?_)
  refine setF (s := { s' with heap := g2 }) e2 d2 (by simp) fun g3 p3 e3 c3 d3 i3 l3 b3 => ?_
  refine stop_any (s := { s' with heap := g3 }) hh fun g4 e k4 hs => ?_
  obtain ⟨os, hos, hsc⟩ := hs
  refine wpAny_bind (wpAny_isInstance (T := "StopIteration") (b := true) ⟨os, hos, hsc⟩ isSubtype_stop ?_)
  refine wpAny_pure (h2 hz g4 (fun b o hne e => k4 b o (b3.extBut b o hne (b2.extBut b o hne (b1.extBut b o hne e)))) ⟨p3, k4 _ _ e3, by rw [c3, c2, c1, hc2], by rw [d3]; rfl, by rw [i3, i2, i1], by rw [l3, l2, l1]⟩)
 ·rw [show (Str.empty == z) = false by simpa using fun e => hz e.symm]
  simp only [Bool.not_false, if_true]
  exact wpAny_pure ⟨_, rfl, wpAny_pure (h1 hz)⟩
theorem citer_over {a : Addr} {o : Obj} {Q : Option Value -> Shared -> Prop} (hh : A.handled = none) (ho : s.heap.get? a = some o) (hcl : o.cls = .type "callable_iterator") (hd : o.data = .fields #[.none, .none, .bool true])
  (h : ∀ h', Ext s.heap h' -> Q none { s with heap := h' }) : wpAny (model prg w) A (pyNext (.ref a)) Q E s := by
 have hT : s.TypeIs (.ref a) "callable_iterator" := ⟨o, ho, hcl⟩
 unfold pyNext
 refine wpAny_bind (wpAny_attempt (wpAny_callSpecial?_slot (name := Str.ofString "__next__") hT slot_citer_next
  (wpAny_call_entry slot_citer_next hT entry_citer_next ?_ (args_citer_next _))))
 show wpAny _ _ (field (.ref a) 2 >>= _) _ _ s
 refine wpAny_bind (wpAny_field ho hd (x := .bool true) rfl ?_)
 show wpAny _ _ (if (Value.bool true == Value.bool true) = true then _ else _) _ _ s
 rw [if_pos (show (Value.bool true == Value.bool true) = true by decide)]
 refine wpAny_bind (wpAny_rule ?_)
 refine wpAny_bind (stop_any hh fun g4 e k4 hs => ?_)
 obtain ⟨os, hos, hsc⟩ := hs
 refine wpAny_bind (wpAny_isInstance (T := "StopIteration") (b := true) ⟨os, hos, hsc⟩ isSubtype_stop ?_)
 exact wpAny_pure (h g4 k4)
end
section
variable {w : World} {A : Around} {base n : Nat} {κ : Kw} {rest l ow ow' : List (Addr × Sh)} {σ σ' : List O} {h h' h₀ : Heap} {v a b : V} {v' a' b' : Value} {vs : List V} {vs' : List Value} {s : Shared} {E : Value -> Shared -> Prop} {fr fr' : Fr} {env : Env} {bs : List (Str × Value)} {L : Lv} {p pos : Pos} {x : Addr} {R : Result -> Shared -> Prop}
theorem Simh.dropOw (S : Simh w κ h σ (ow ++ rest)) : Simh w κ h σ rest := by
 induction ow with
 | nil => exact S
 | cons p ow ih => exact ih S.rest_tail
theorem St.setX {x x' : Sh} {a : Addr} {l l' : List (Addr × Sh)} (S : St w h₀ h l) (r : Rep a x x' l l') (hs : Heap.ExtBut a h h') (hx : Has w h' a x') : St w h₀ h' l' := by
 have ha : h₀.get? a = none := S.new _ r.mem
 refine ⟨fun b o e => ?_, fun p hp => ?_, by rw [r.addr]; exact S.nd, fun p hp => ?_, fun p hp => ?_, S.three⟩
 ·exact hs b o (fun q => by rw [q, ha] at e; cases e) (S.keep b o e)
 ·rcases r.mem' S.nd p hp with rfl | ⟨hp, hne⟩
  ·exact hx
  ·obtain ⟨o, e, q⟩ := S.own p hp
   exact ⟨o, hs _ _ hne e, q⟩
 ·rcases r.mem' S.nd p hp with rfl | ⟨hp, _⟩
  ·exact ha
  ·exact S.new p hp
 ·rcases r.mem' S.nd p hp with rfl | ⟨hp, _⟩
  ·exact S.pos (a, x) r.mem
  ·exact S.pos p hp
noncomputable def AfterW (R : Result -> Shared -> Prop) (X : Shared -> Prop) (f : Flow) (s : Shared) : Prop :=
 match f with
 | .next => X s
 | .cont => X s
 | .brk => R (.ok .next) s
 | .ret v => R (.ok (.ret v)) s
noncomputable def LoopR (w : World) (env : Env) (rest : List (Addr × Sh)) (base : Nat) (κ : Kw) (σ : List O) (r : Fl × Fr) (σ' : List O) (R : Result -> Shared -> Prop) : Prop := ∀ κ' fl' s', Kle κ κ' -> StF w env rest base κ' r fl' σ' s' -> Pres base σ σ' -> R (.ok fl') s'
theorem after_tel {go : Fr -> M (Fl × Fr)} {r r1 : Fl × Fr} {fl' : Flow} {X : Shared -> Prop} {κ₀ : Kw} {σ₀ : List O} (hR : LoopR w env rest base κ₀ σ₀ r σ' R) (k : Kle κ₀ κ) (p : Pres base σ₀ σ) (h : afterTurn go r1 σ = some (r, σ')) (H : StF w env (ow ++ rest) base κ r1 fl' σ s)
  (hgo : ∀ bs, go r1.2 σ = some (r, σ') -> FrRel w κ r1.2 env bs -> Sim w κ s σ ((env.locals, .ns bs) :: (ow ++ rest)) -> r1.2.base = base -> X s) : AfterW R X fl' s := by
 obtain ⟨bs, hfl, F, S, hb⟩ := H
 have S1 : Sim w κ s σ ((env.locals, .ns bs) :: rest) := ⟨Simh.dropOw (ow := ow) (S.hp.rPm List.perm_middle.symm), S.tk⟩
 obtain ⟨fl, fr⟩ := r1
 cases fl with
 | next => cases hfl; exact hgo bs h F S hb
 | cont => cases hfl; exact hgo bs h F S hb
 | brk => cases hfl; cases h; exact hR κ .next s k ⟨bs, rfl, F, S1, hb⟩ p
 | ret v => obtain ⟨v', rfl, rv⟩ := hfl; cases h; exact hR κ (.ret v') s k ⟨bs, ⟨v', rfl, rv⟩, F, S1, hb⟩ p
theorem turnS_tel (I : Snd L n) (T : Tp w κ.h) (OK : Ok n A) {tg : Expr} {body : List Stmt} (F : FrRel w κ fr env bs) (hb : fr.base = base) (r : Rel w κ v v') : TelF w base κ ((env.locals, .ns bs) :: rest) (StF w env rest base) σ (turnS L tg body v fr)
  fun Q E => wpAny (model prg w) A (assign tg env v') (fun _ => wpAny (model prg w) A (execs body env) Q E) E := .frm (asg_tel I OK.hh T OK F hb r) fun k1 F1 b1 _ => I.exs (T.mono k1.h) OK F1 b1 _
inductive FI (w : World) (env : Env) (tg : Expr) (chk : Chk) (it : Value) (f : V -> Fr -> M (Fl × Fr)) (els : Fr -> M (Fl × Fr)) (rest : List (Addr × Sh)) (base : Nat) (κ₀ : Kw) (σ₀ : List O) (r : Fl × Fr) (σ' : List O) : Nat -> Shared -> Prop
 | mk {κ items σ ow bs fr s} (k : Kle κ₀ κ) (F : FrRel w κ fr env bs) (hf : fr.base = base) (Y : Yld w tg chk it items κ ow) (hm : forV chk f els items fr σ = some (r, σ')) (hb : base <= σ.length) (S : Sim w κ s σ (ow ++ (env.locals, .ns bs) :: rest)) (pr : Pres base σ₀ σ) : FI w env tg chk it f els rest base κ₀ σ₀ r σ' items.length s
theorem for_tel (I : Snd L n) (T : Tp w κ.h) (OK : Ok n A) {tg : Expr} {body orelse : List Stmt} {items : List V} {chk : Chk} {it : Value} {r : Fl × Fr} (F : FrRel w κ fr env bs) (hf : fr.base = base) (Y : Yld w tg chk it items κ ow)
  (hm : forV chk (turnS L tg body) (L.exs orelse) items fr σ = some (r, σ')) (hbl : base <= σ.length) (S : Sim w κ s σ (ow ++ (env.locals, .ns bs) :: rest)) (hR : LoopR w env rest base κ σ r σ' R) : codeAny (model prg w) A (.forLoop tg it body orelse env) R s := by
 refine codeAny_forLoop_any (FI w env tg chk it (turnS L tg body) (L.exs orelse) rest base κ σ r σ') (fun m s' hI => ?_) items.length (.mk Kle.rfl F hf Y hm hbl S Pres.rfl)
 clear hm hbl S Y F hf
 cases hI with
 | @mk κ1 items1 σ1 ow1 bs1 fr1 _ k1 F1 hf1 Y1 hm1 hbl1 S1 p1 =>
 cases items1 with
 | nil =>
  obtain ⟨hc, hm2⟩ := Option.ite_none_right_eq_some.mp (show (if chk σ1 then L.exs orelse fr1 σ1 else none) = _ from hm1)
  exact Y1 κ1 A _ _ _ _ _ Kle.rfl OK.hh hc S1 fun s2 S2 => I.exs (T.mono k1.h) OK F1 hf1 _ _ _ hm2 hbl1 s2 _ _ S2 fun κ2 fl' s3 k2 H p2 => hR κ2 fl' s3 (k1.trans k2) H (p1.trans p2)
 | cons v vs =>
  refine hd fun P0 q0 => ?_
  obtain ⟨hc, hm2⟩ := Option.ite_none_right_eq_some.mp (show (if chk σ1 then (turnS L tg body v fr1 >>= fun r => afterTurn (forV chk (turnS L tg body) (L.exs orelse) vs) r) σ1 else none) = _ from hm1)
  refine bindC hm2 fun r1 σ2 h1 h2 => ?_
  refine q0 ?_
  refine Y1 κ1 A _ _ _ _ _ Kle.rfl OK.hh hc S1 fun κ2 y s2 k2 _ ry hgo => hgo _ _ fun s3 ow2 S3 Y2 => ?_
  refine turnS_tel I (T.mono (k1.trans k2).h) OK (F1.mono k2) hf1 ry _ _ h1 hbl1 s3 _ _ (S3.rPm List.perm_middle) fun κ3 fl' s4 k3 H p3 => ?_
  have := after_tel (X := fun s => ∃ m, m < (v :: vs).length /\ FI w env tg chk it (turnS L tg body) (L.exs orelse) rest base κ σ r σ' m s) hR (k1.trans (k2.trans k3)) (p1.trans p3) h2 H fun bs hg F3 S4 hb3 =>
   ⟨vs.length, Nat.lt_succ_self _, .mk (k1.trans (k2.trans k3)) F3 hb3 (Y2.mono k3) hg (Nat.le_trans hbl1 p3.len) (S4.rPm List.perm_middle.symm) (p1.trans p3)⟩
  cases fl' <;> exact this
theorem loopR_of {r : Fl × Fr} {Q : Flow -> Shared -> Prop} {κ₀ : Kw} {σ₀ : List O} (k : Kle κ₀ κ) (p : Pres base σ₀ σ) (hQ : ∀ κ' b s', Kle κ₀ κ' -> StF w env rest base κ' r b σ' s' -> Pres base σ₀ σ' -> Q b s') : LoopR w env rest base κ σ r σ' fun r s' => match r with | .ok f => Q f s' | .error e => cameBackBy (model prg w) A env E e s' :=
 fun κ' fl' s' k' H p' => hQ κ' fl' s' (k.trans k') H (p.trans p')
inductive WI (w : World) (env : Env) (f : Nat -> Fr -> M (Fl × Fr)) (rest : List (Addr × Sh)) (base : Nat) (κ₀ : Kw) (σ₀ : List O) (r : Fl × Fr) (σ' : List O) : Nat -> Shared -> Prop
 | mk {m κ σ bs fr s} (k : Kle κ₀ κ) (F : FrRel w κ fr env bs) (hf : fr.base = base) (hm : f m fr σ = some (r, σ')) (hb : base <= σ.length) (S : Sim w κ s σ ((env.locals, .ns bs) :: rest)) (pr : Pres base σ₀ σ) : WI w env f rest base κ₀ σ₀ r σ' m s
theorem while_tel (I : Snd L n) (T : Tp w κ.h) (OK : Ok n A) {test : Expr} {body : List Stmt} {r : Fl × Fr} {m : Nat} (F : FrRel w κ fr env bs) (hf : fr.base = base) (hm : whileV L test body m fr σ = some (r, σ')) (hbl : base <= σ.length) (S : Sim w κ s σ ((env.locals, .ns bs) :: rest)) (hR : LoopR w env rest base κ σ r σ' R) :
  codeAny (model prg w) A (.whileLoop test body [] env) R s := by
 refine codeAny_whileLoop (WI w env (whileV L test body) rest base κ σ r σ') (fun m s' hI => ?_) m (.mk Kle.rfl F hf hm hbl S Pres.rfl)
 clear hm hbl S F hf
 cases hI with
 | @mk κ1 σ1 bs1 fr1 _ k1 F1 hf1 hm1 hbl1 S1 p1 =>
 cases m with
 | zero => cases hm1
 | succ m =>
  refine bindC (show (L.tr test fr1 >>= fun b => if b then (L.exs body fr1 >>= fun q => afterTurn (whileV L test body m) q) else pure (.next, fr1)) σ1 = _ from hm1) fun tb σ2 h1 h2 => ?_
  subst hf1
  refine I.t ⟨T.mono k1.h, OK, F1, .head _⟩ σ1 _ _ h1 hbl1 s' _ _ S1 fun κ2 b2 s2 k2 r2 S2 p2 => ?_
  subst r2
  cases b2 with
  | false =>
   cases h2
   exact wpAny_execs_nil (hR κ2 .next s2 (k1.trans k2) ⟨bs1, rfl, F1.mono k2, S2, rfl⟩ (p1.trans p2))
  | true =>
   refine bindC h2 fun r1 σ3 h3 h4 => ?_
   refine I.exs (T.mono (k1.trans k2).h) OK (F1.mono k2) rfl _ _ _ h3 (Nat.le_trans hbl1 p2.len) s2 _ _ S2 fun κ4 fl' s5 k4 H p5 => ?_
   have := after_tel (ow := []) (X := fun s => ∃ m', m' < m + 1 /\ WI w env (whileV L test body) rest fr1.base κ σ r σ' m' s) hR (k1.trans (k2.trans k4)) (p1.trans (p2.trans p5)) h4 H fun bs hg F3 S4 hb3 =>
    ⟨m, Nat.lt_succ_self _, .mk (k1.trans (k2.trans k4)) F3 hb3 hg (Nat.le_trans hbl1 (p2.trans p5).len) S4 (p1.trans (p2.trans p5))⟩
   cases fl' <;> exact this
theorem sx_while (I : Snd L n) (C : CtxS w n A κ fr env bs rest) {t : Expr} {body orelse : List Stmt} : TelS w κ rest env bs fr σ (guardM orelse.isEmpty >>= fun _ => whileV L t body 1000 fr) (wpAny (model prg w) A (exec (.While t body orelse pos) env)) := .guard fun c r σ' hm hb s E Q S k => by
 obtain rfl := List.isEmpty_iff.mp c
 exact wpAny_While (while_tel I C.T C.ok C.F rfl hm hb S (loopR_of Kle.rfl Pres.rfl k))
theorem sx_for (I : Snd L n) (C : CtxS w n A κ fr env bs rest) {t e : Expr} {body orelse : List Stmt} (hc : notSet e = true) : TelS w κ rest env bs fr σ (iterSrc L t e fr >>= fun q => forV q.2 (turnS L t body) (L.exs orelse) q.1 fr) (wpAny (model prg w) A (exec (.For t e body orelse pos) env)) := fun r σ' hm hbl s E Q S hQ => bindC hm fun q σ1 q1 hm =>
 wpAny_For (hs := fun x => set_none hc) (iterSrc_tel (tg := t) I C _ _ q1 hbl s _ _ S fun κ1 it s1 k1 ⟨ow, S1, Y⟩ p1 => for_tel I (C.T.mono k1.h) C.ok (C.F.mono k1) rfl Y hm (Nat.le_trans hbl p1.len) S1 (loopR_of k1 p1 hQ))
theorem cellV_st {xn : Str} {r} (hm : cellV xn fr σ = some r) : r.2 = σ := bindC hm fun _ _ e1 h1 => bindC h1 fun k _ e2 h2 => bindC h2 fun o _ e3 h3 => bindC h3 fun c _ e4 h4 => by
 clear hm h1 h2 h3
 cases hd : decide (xn ≠ ("__classdict__" : Str)) with
 | false => rw [hd] at e1; cases e1
 | true =>
 rw [hd] at e1
 cases e1
 obtain ⟨_, _, e⟩ := Option.map_eq_some_iff.mp e2
 cases e
 obtain ⟨_, _, e⟩ := Option.map_eq_some_iff.mp e3
 cases e
 obtain ⟨_, _, e⟩ := Option.map_eq_some_iff.mp e4
 cases e
 obtain ⟨_, _, e⟩ := Option.map_eq_some_iff.mp h4
 cases e; rfl
theorem name_st {xn : Str} {r} (hm : name xn fr σ = some r) : r.2 = σ := bindC hm fun k _ e1 h1 => by
 obtain ⟨_, _, e⟩ := Option.map_eq_some_iff.mp e1
 cases e
 cases k with
 | «local» => obtain ⟨_, _, e⟩ := Option.map_eq_some_iff.mp h1; cases e; rfl
 | globalImplicit => obtain ⟨_, _, e⟩ := Option.map_eq_some_iff.mp h1; cases e; rfl
 | cell => exact cellV_st h1
 | free => exact cellV_st h1
 | globalExplicit => cases h1
theorem evNm_at {xn : Str} {r} (hm : evNm xn fr σ = some r) : r.2 = σ := bindC hm fun _ _ e h => by
 cases hd : decide (xn ≠ ("__debug__" : Str)) with
 | false => rw [hd] at e; cases e
 | true => rw [hd] at e; cases e; exact name_st h
theorem isIter_st {e : Expr} {r : Option Nat} (hm : isIter e fr σ = some (r, σ')) : σ' = σ /\ ∀ k, r = some k -> ∃ xn p c, e = .Name xn p /\ evNm xn fr σ = some (.ref k, σ) /\ σ[k]? = some (.citer c) := by
 delta isIter at hm
 cases q : nameE e with
 | none => rw [q] at hm; cases hm; exact ⟨rfl, nofun⟩
 | some xn =>
  rw [q] at hm
  obtain ⟨p, rfl⟩ := nameE_inv q
  refine bindC hm fun v σ1 h1 h2 => ?_
  obtain rfl : σ1 = σ := evNm_at h1
  change (match v.ref? with | some k => isCiter k | none => pure none) σ1 = _ at h2
  cases q2 : v.ref? with
  | none => rw [q2] at h2; cases h2; exact ⟨rfl, nofun⟩
  | some k =>
   rw [q2] at h2
   rw [ref_inv q2] at h1
   refine bindC h2 fun o σ2 h3 h4 => ?_
   obtain ⟨o', ho, e⟩ := Option.map_eq_some_iff.mp h3
   cases e
   cases h4
   refine ⟨rfl, fun k' hk => ?_⟩
   cases o with
   | citer c => cases hk; exact ⟨xn, p, c, rfl, h1, ho⟩
   | _ => cases hk
theorem methF_inv {f : Addr} {o : O} (h : oMethF f o = true) : ∃ C j, o = .citer (some (.meth f C j)) := by
 unfold oMethF at h
 cases o with
 | citer c =>
  cases c with
  | none => cases h
  | some v =>
   cases v with
   | meth f' C j => rw [show f' = f from of_decide_eq_true h]; exact ⟨C, j, rfl⟩
   | _ => cases h
 | _ => cases h
theorem meth_inv {m : V} {q} (h : meth? m = some q) : m = .meth q.1 q.2.1 q.2.2 := by
 cases m with
 | meth => cases h; rfl
 | _ => cases h
theorem citer_ent {k : Nat} {a : Addr} {o : O} (ha : κ.ρ[k]? = some a) (ho : σ[k]? = some o) (D : Led w κ h σ rest l) : ∃ sh, ORel w κ o sh /\ (a, sh) ∈ l /\ ∀ o' sh', ORel w κ o' sh' -> ∃ l', Rep a sh sh' l l' /\ ∀ h', St w κ.h h' l' -> Simh w κ h' (σ.set k o') rest := by
 refine hd fun P0 q0 => ?_
 obtain ⟨a1, sh1, ha1, ro1, mm1, upd⟩ := D.get _ _ ho
 refine q0 ?_
 rw [ha] at ha1; cases ha1
 exact ⟨sh1, ro1, mm1, upd⟩
theorem ci_live {a f C : Addr} {j : Nat} {sh : Sh} {P : Prop} (ro : ORel w κ (.citer (some (.meth f C j))) sh) (hx : Has w h a sh) (k : Ext κ.h h)
  (kk : ∀ (o : Obj) (am x d : Addr) (t : Tok), h.get? a = some o -> o.cls = .type "callable_iterator" -> o.data = .fields #[.ref am, .str Str.empty t, .bool false] -> h.get? am = some (methObj f x) -> κ.ρ[j]? = some d -> Has w κ.h x (.exact (instObj C d)) -> P) : P := by
 obtain ⟨v1, t1, o1, rfl, hc1, hd1, am, x, d, hk1, rfl, f1, f2⟩ := ro
 obtain ⟨o, hg, rfl⟩ := hx
 exact kk o am x d t1 hg hc1 hd1 (k _ _ f1.get) hk1 f2
theorem citer_entP {k : Nat} {a : Addr} {o : O} {P : Prop} (ha : κ.ρ[k]? = some a) (ho : σ[k]? = some o) (S : Sim w κ s σ rest)
  (kk : ∀ sh l, Led w κ s.heap σ rest l -> ORel w κ o sh -> (a, sh) ∈ l -> (∀ o' sh', ORel w κ o' sh' -> ∃ l', Rep a sh sh' l l' /\ ∀ h', St w κ.h h' l' -> Simh w κ h' (σ.set k o') rest) -> P) : P := by
 obtain ⟨l, D⟩ := S.led
 obtain ⟨sh, ro, mm, u⟩ := citer_ent ha ho D
 exact kk sh l D ro mm u
theorem forC_tel (I : Snd L n) (T : Tp w κ.h) (OK : Ok (n + 1) A) {tg : Expr} {body : List Stmt} {k m : Nat} {r : Fl × Fr} {a : Addr} (ha : κ.ρ[k]? = some a) (F : FrRel w κ fr env bs) (hf : fr.base = base)
  (hm : forC L k (turnS L tg body) m fr σ = some (r, σ')) (hbl : base <= σ.length) (S : Sim w κ s σ ((env.locals, .ns bs) :: rest)) (hR : LoopR w env rest base κ σ r σ' R) : codeAny (model prg w) A (.forLoop tg (.ref a) body [] env) R s := by
 have OKn : Ok n A := OK.le (Nat.le_succ n)
 refine codeAny_forLoop_any (WI w env (forC L k (turnS L tg body)) rest base κ σ r σ') (fun m s' hI => ?_) m (.mk Kle.rfl F hf hm hbl S Pres.rfl)
 clear hm hbl S F hf
 cases hI with
 | @mk κ1 σ1 bs1 fr1 _ k1 F1 hf1 hm1 hbl1 S1 p1 =>
 cases m with
 | zero => cases hm1
 | succ m =>
 refine hd fun P0 q0 => ?_
 refine bindK (f := fun o => liftO (oIter o) >>= fun c => match c with
   | none => pure (.next, fr1)
   | some m' => do
    let q <- liftO (meth? m')
    let fi <- liftO (fnAt q.1)
    let v <- callFn L fr1.base fi [] [.inst q.2.1 q.2.2]
    let s <- strV v
    let o2 <- look k
    guardM (oMethF q.1 o2)
    if s = Str.empty then putR k (.citer none) (.next, fr1)
    else do
     let r <- turnS L tg body (.str s) fr1
     afterTurn (forC L k (turnS L tg body) m) r) hm1 fun o ho h1 => bindL h1 fun c hc h2 => ?_
 clear hm1 h1
 rw [oIter_inv hc] at ho
 refine citer_entP (k1.get ha) ho S1 fun sh1 l1 D1 ro1 mm1 _ => ?_
 cases c with
 | none =>
  cases h2
  obtain ⟨o1, rfl, hc1, hd1⟩ := ro1
  refine q0 ?_
  exact citer_over OK.hh (D1.st.has mm1).get hc1 hd1 fun h2 hx => wpAny_execs_nil (hR κ1 .next _ k1 ⟨bs1, rfl, F1, ⟨S1.keeps hx, S1.tk⟩, hf1⟩ p1)
 | some m' =>
  refine bindL h2 fun q hq3 h3 => bindL h3 fun fi hfn h4 => bindC h4 fun v σ2 h5 h6 => bindL h6 fun z hv7 h7 => bindK h7 fun o2 ho2 h8 => bindG h8 fun hmf h9 => ?_
  clear h2 h3 h4 h6 h7 h8
  obtain rfl := meth_inv hq3
  refine ci_live ro1 (D1.st.has mm1) D1.st.keep fun o1 am x d t1 hg1 hc1 hd1 f1 hk1 f2 => ?_
  obtain ⟨fd, X⟩ := fd_ok (T.mono k1.h) hfn
  obtain ⟨of, hof, hfd⟩ := X.ob
  refine q0 ?_
  refine citer_next OK.hh hg1 hc1 hd1 f1 (D1.st.keep _ _ hof) hfd ?_
  have rargs : Rels w κ1 [.inst q.2.1 q.2.2] [.ref x] := ⟨_, _, rfl, ⟨x, d, hk1, rfl, f2⟩, rfl⟩
  refine callFn_codeF (A := A.in1) I (T.mono k1.h) OK.room (fun env => ⟨OK.hh, by have := OK.depth; show A.depth + 1 + 4 * n < 1000; lia, by have := OK.units; show A.units + 1 + 3 + 40 * n < 9900; lia⟩) hfn rargs _ _ h5 (by rw [hf1]; exact hbl1) s' _ S1 fun κ2 b2 s2 k2 r2 S2 p2 => ?_
  rw [hf1] at p2
  rw [str_inv hv7] at r2
  obtain ⟨u, rfl, hu⟩ := id r2
  obtain ⟨C2, j2, rfl⟩ := methF_inv hmf
  refine citer_entP (k2.get (k1.get ha)) ho2 S2 fun sh2 l2 D2 ro2 mm2 upd2 => ci_live ro2 (D2.st.has mm2) D2.st.keep fun o2 am2 x2 d2 t2 hg2 hc2 hd2 f3 hk2 f4 => ?_
  refine .mk hg2 hc2 hd2 f3 (D2.st.keep _ _ (k2.h _ _ hof)) hfd (fun hz => ?_) fun hz h3 hx3 ho3 => ?_
  ·rw [if_neg hz] at h9
   refine letGo_plain hg2 hc2 rfl (bindC h9 fun r1 σ3 h10 h11 => ?_)
   refine turnS_tel I (T.mono (k1.trans k2).h) OKn (F1.mono k2) hf1 r2 _ _ h10 (Nat.le_trans hbl1 p2.len) s2 _ _ S2 fun κ3 fl' s4 k3 H p3 => ?_
   have := after_tel (ow := []) (X := fun s => ∃ m', m' < m + 1 /\ WI w env (forC L k (turnS L tg body)) rest base κ σ r σ' m' s) hR (k1.trans (k2.trans k3)) (p1.trans (p2.trans p3)) h11 H fun bs hg F3 S4 hb3 =>
    ⟨m, Nat.lt_succ_self _, .mk (k1.trans (k2.trans k3)) F3 hb3 hg (Nat.le_trans hbl1 (p2.trans p3).len) S4 (p1.trans (p2.trans p3))⟩
   cases fl' <;> exact this
  ·rw [if_pos hz] at h9
   refine hd fun P0 q0 => ?_
   obtain ⟨_, e⟩ := Option.ite_none_right_eq_some.mp (show (if k < List.length _ then some ((Fl.next, fr1), _) else none) = _ from h9)
   cases e
   obtain ⟨o3, hg3, hc3, hd3, -, -⟩ := ho3
   obtain ⟨l3, rp, back⟩ := upd2 (.citer none) (.exact o3) ⟨o3, rfl, hc3, hd3⟩
   refine q0 ?_
   exact wpAny_execs_nil (hR κ2 .next _ (k1.trans k2) ⟨bs1, rfl, F1.mono k2, ⟨back h3 (D2.st.setX rp hx3 ⟨o3, hg3, rfl⟩), S2.tk⟩, hf1⟩ (p1.trans (p2.trans (Pres.set fun c _ _ _ => trivial))))
theorem sx_forC (I : Snd L n) (C : CtxS w n A κ fr env bs rest) (OK : Ok (n + 1) A) {xn : Str} {xp : Pos} {t : Expr} {body : List Stmt} {k : Nat} {c : Option V} (hi : evNm xn fr σ = some (.ref k, σ)) (ho : σ[k]? = some (.citer c)) :
  TelS w κ rest env bs fr σ (forC L k (turnS L t body) 1000 fr) (wpAny (model prg w) A (exec (.For t (.Name xn xp) body [] pos) env)) := fun r σ' hm hbl s E Q S hQ => by
 refine wpAny_For (hs := fun x => set_none rfl) (evNm_tel C σ _ _ hi hbl s _ _ S fun κ1 x1 s1 k1 r1 S1 p1 => ?_)
 refine hd fun P0 q0 => ?_
 obtain ⟨a, ha, rfl⟩ := r1
 obtain ⟨l1, D1⟩ := S1.led
 obtain ⟨sh1, ro1, mm1, -⟩ := citer_ent ha ho D1
 have key : ∃ o', s1.heap.get? a = some o' /\ o'.cls = .type "callable_iterator" := by
  cases c with
  | none => obtain ⟨o3, rfl, hc, -⟩ := ro1; exact ⟨o3, (D1.st.has mm1).get, hc⟩
  | some mv => obtain ⟨_, _, o3, rfl, hc, -⟩ := ro1; exact ⟨o3, (D1.st.has mm1).get, hc⟩
 obtain ⟨o', hg, hc⟩ := key
 refine q0 ?_
 exact citer_iter hg hc (forC_tel I (C.T.mono k1.h) OK ha (C.F.mono k1) rfl hm hbl S1 (loopR_of k1 p1 hQ))
theorem forStep_tel (I : Snd L n) (C : CtxS w n A κ fr env bs rest) (OK : Ok (n + 1) A) {t it : Expr} {body orelse : List Stmt} : TelS w κ rest env bs fr σ (forStep L t it body orelse fr) (wpAny (model prg w) A (exec (.For t it body orelse pos) env)) :=
 .guard fun hc r σ' hm hb s E Q S k => bindC hm fun i σ1 h1 h2 => by
  obtain ⟨rfl, hi⟩ := isIter_st h1
  cases i with
  | none => exact sx_for I C hc _ _ h2 hb s E Q S k
  | some j =>
   refine hd fun P0 q0 => ?_
   obtain ⟨xn, p, c, rfl, h3, h4⟩ := hi j rfl
   refine bindG h2 fun he h5 => ?_
   obtain rfl := List.isEmpty_iff.mp he
   refine q0 ?_
   exact sx_forC I C OK h3 h4 _ _ h5 hb s E Q S k
theorem exStep_tel (I : Snd L n) (C : CtxS w n A κ fr env bs rest) (OK : Ok (n + 1) A) {st : Stmt} : TelS w κ rest env bs fr σ (exStep L st fr) (wpAny (model prg w) A (exec st env)) := by
 cases st with
 | Expr => exact sx_expr I C
 | Return => exact sx_ret I C
 | Continue => exact sx_cont C
 | If => exact sx_if I C
 | Assign => exact sx_asg I C
 | AugAssign => exact sx_aug I C
 | While => exact sx_while I C
 | For => exact forStep_tel I C OK
 | _ => exact .fail
set_option backward.match.sparseCases false in
theorem exL_tel (I : Snd L n) (OK : Ok (n + 1) A) (sts : List Stmt) : ∀ {κ : Kw} {fr : Fr} {bs : List (Str × Value)} {σ : List O}, CtxS w n A κ fr env bs rest -> fr.base = base -> TelF w base κ ((env.locals, .ns bs) :: rest) (StF w env rest base) σ (exL L sts fr) (wpAny (model prg w) A (execs sts env)) := by
 induction sts with
 | nil => intro κ fr bs σ C hb; exact .imp (.st .next rfl C.F hb) fun Q E s h => wpAny_execs_nil h
 | cons st sts ih =>
  intro κ fr bs σ C hb r σ' hm hbl s E Q S hQ
  subst hb
  refine bindC (f := fun r : Fl × Fr => match r.1 with | .next => exL L sts r.2 | fl => pure (fl, r.2)) hm fun r1 σ1 h1 h2 => wpAny_execs_cons (exStep_tel I C OK _ _ h1 hbl s _ _ S fun κ1 fl' s1 k1 ⟨bs1, hfl, F1, S1, e1⟩ p1 => ?_)
  obtain ⟨fl1, fr1⟩ := r1
  cases fl1 with
  | next =>
   cases hfl
   exact ih ⟨C.T.mono k1.h, C.ok, F1, .head _⟩ e1 _ _ h2 (Nat.le_trans hbl p1.len) s1 E Q S1 fun κ2 b s2 k2 H p2 => hQ κ2 b s2 (k1.trans k2) H (p1.trans p2)
  | cont => cases hfl; cases h2; exact hQ κ1 .cont s1 k1 ⟨bs1, rfl, F1, S1, e1⟩ p1
  | brk => cases hfl; cases h2; exact hQ κ1 .brk s1 k1 ⟨bs1, rfl, F1, S1, e1⟩ p1
  | ret v => obtain ⟨v', rfl, rv⟩ := hfl; cases h2; exact hQ κ1 (.ret v') s1 k1 ⟨bs1, ⟨v', rfl, rv⟩, F1, S1, e1⟩ p1
theorem listMut_tel (r : Rels w κ vs vs') : TelT w base κ rest (Rel w) σ (liftO (one vs) >>= fun v => listOf v >>= fun xs => alloc (.list xs) >>= fun k => pure (.ref k)) (wpAny (model prg w) A (PySem.call (.type "list") vs')) :=
 .one (W := fun as => wpAny (model prg w) A (PySem.call (.type "list") as)) r fun v v' rv => .list rv fun xs p e h => .leaf fun a σ' e' hb s E Q S k => by
  cases e'
  obtain ⟨l, D⟩ := S.led
  obtain ⟨xs', rr, i⟩ := h _ _ D
  subst e
  refine listCopyS D.st i fun a h' S' => ?_
  exact k ⟨κ.h, κ.ρ ++ [a], κ.τ⟩ _ _ Kle.push ⟨a, by rw [<- S.len]; exact List.getElem?_concat_length, rfl⟩ (D.alloc h' a (.list xs) (.list xs') ⟨_, rfl, Rels.mono Kle.push _ _ rr⟩ S') (Pres.alloc _)
theorem evCall_tel (I : Snd L n) (C : Ctx' w n A κ fr env bs rest) (OK : Ok (n + 1) A) {f : Expr} {args : List Expr} : TelT w fr.base κ rest (Rel w) σ (evCall L f args pos fr) (wpAny (model prg w) A (eval (.Call f args [] pos) env)) := by
 unfold evCall
 cases q : attr? f with
 | some r =>
  cases f with
  | Attribute o m ap => cases q; exact evMeth_tel I C OK
  | _ => cases q
 | none =>
  refine .ite (fun _ => ?_) fun _ => st_call I C q
  delta evListMut
  exact (st_callK (F := FT w rest (Rel w)) (g := fun fv => isCallee fv && isTy "list" fv) (k := fun _ vs => liftO (one vs) >>= fun v => listOf v >>= fun xs => alloc (.list xs) >>= fun k => pure (.ref k)) (W' := fun x Q _ s => Q x s) I C q (fun _ h => (Bool.and_eq_true_iff.mp h).1) fun k c r => by
   rw [isTy_con (Bool.and_eq_true_iff.mp c).2]
   exact (listMut_tel r).toF).toT
theorem ev_tel (I : Snd L n) (C : Ctx' w n A κ fr env bs rest) (OK : Ok (n + 1) A) {e : Expr} : Tel w A fr.base κ rest (Rel w) (evStep L e fr) (eval e env) := fun σ => by
 cases e with
 | Constant => exact st_const
 | Name => exact evNm_tel C σ
 | BinOp => exact st_bin I C
 | UnaryOp op x p => exact .guard fun c => of_decide_eq_true c ▸ st_neg I C
 | IfExp => exact st_ifK I C
 | Compare => exact st_cmp I C OK
 | Tuple => exact st_tup I C
 | List => exact st_list I C
 | Dict => exact evDict_tel I C
 | ListComp => exact st_listcomp I C
 | DictComp => exact st_dictcomp I C
 | Attribute => exact st_att I C
 | Subscript => exact evSub_tel I C
 | Call f as ks p =>
  refine .guard fun c => ?_
  obtain rfl := List.isEmpty_iff.mp c
  exact evCall_tel I C OK
 | _ => exact .fail
theorem noneBooked (T : Tp w h₀) (k : Ext h₀ h) : NoneBooked h := by
 obtain ⟨mc, G, -⟩ := T.nolimit
 obtain ⟨K, X, F⟩ := T.X
 exact ⟨mc, G.keeps k, ns_none_of X G F.nbk⟩
theorem same_str {y z : Str} {u v : Tok} {Q : Bool -> Shared -> Prop} {M : Model} (h0 : u ≠ 0) (h1 : v ≠ 0) (hb : NoneBooked s.heap) (hu : u = v -> y = z) (hq : ∀ b, (b = true -> y = z) -> Q b s) : wpAny M A (isSame (.str y u) (.str z v)) Q E s := by
 show wpAny M A (isSame.created (y == z) u v) Q E s
 unfold isSame.created
 refine wpAny_ite ?_
 split
 ·rename_i h
  simp only [Bool.or_eq_true, beq_iff_eq] at h
  rcases h with h | h
  ·exact absurd h h0
  ·exact absurd h h1
 refine wpAny_ite ?_
 split
 ·rename_i h
  exact wpAny_pure (hq _ fun _ => hu (eq_of_beq h))
 refine wpAny_ite ?_
 split
 ·exact wpAny_pure (hq _ nofun)
 rename_i hyz
 have hyz : y = z := by simpa using hyz
 refine wpAny_bind (wpAny_sharingNotTold_none hb ?_)
 first | rw [if_neg Bool.false_ne_true] | simp only [Bool.false_eq_true, if_false]
 refine wpAny_bind (wpAny_sharingNotTold_none hb ?_)
 first | rw [if_neg Bool.false_ne_true] | simp only [Bool.false_eq_true, if_false]
 exact wpAny_bind (wpAny_rule (wpAny_bind (wpAny_askSetting (wpAny_pure (hq _ fun _ => hyz)))))
theorem cmpE_inv {e : Expr} {q : Str × CmpOp × Str} (h : cmpE e = some q) : ∃ p1 p2 p, e = .Compare (.Name q.1 p1) [q.2.1] [.Name q.2.2 p2] p := by
 cases e with
 | Compare l ops rs p =>
  refine hd fun P0 q0 => ?_
  obtain ⟨op, e1, h⟩ := Option.bind_eq_some_iff.mp h
  obtain ⟨r, e2, h⟩ := Option.bind_eq_some_iff.mp h
  obtain ⟨x, e3, h⟩ := Option.bind_eq_some_iff.mp h
  obtain ⟨y, e4, h⟩ := Option.bind_eq_some_iff.mp h
  cases h
  obtain ⟨p1, rfl⟩ := nameE_inv e3
  obtain ⟨p2, rfl⟩ := nameE_inv e4
  refine q0 ?_
  rw [one_inv e1, one_inv e2]
  exact ⟨p1, p2, p, rfl⟩
 | _ => cases h
theorem sameE_inv {es : List Expr} {q : Str × Str} (h : sameE es = some q) : ∃ p1 p2 p3 p4 p5 p6, es = [.Compare (.Name q.1 p1) [.Is] [.Name q.2 p2] p3, .Compare (.Name q.1 p4) [.Eq] [.Name q.2 p5] p6] := by
 refine hd fun P0 q0 => ?_
 obtain ⟨t, e1, h⟩ := Option.bind_eq_some_iff.mp h
 obtain ⟨a, e2, h⟩ := Option.bind_eq_some_iff.mp h
 obtain ⟨b, e3, h⟩ := Option.bind_eq_some_iff.mp h
 obtain ⟨c, h⟩ := Option.ite_none_right_eq_some.mp h
 cases h
 obtain ⟨p1, p2, p3, h2⟩ := cmpE_inv e2
 obtain ⟨p4, p5, p6, h3⟩ := cmpE_inv e3
 simp only [Bool.and_eq_true, beq_iff_eq] at c
 obtain ⟨⟨o1, o2⟩, n1, n2⟩ := c
 refine q0 ?_
 rw [two_inv e1, h2, h3, o1, o2, <- n1, <- n2]
 exact ⟨p1, p2, p3, p4, p5, p6, rfl⟩
theorem two_names (C : Ctx' w n A κ fr env bs rest) {x y : Str} {p1 p2 : Pos} {f : V -> V -> M Bool} {W' : Value -> Value -> Tr Bool} (h : ∀ {κ' a b a' b'}, Kle κ κ' -> Rel w κ' a a' -> Rel w κ' b b' -> evNm x fr σ = some (a, σ) -> evNm y fr σ = some (b, σ) -> TelT w fr.base κ' rest (fun _ b c => c = b) σ (f a b) (W' a' b')) :
  TelT w fr.base κ rest (fun _ b c => c = b) σ (evNm x fr >>= fun a => evNm y fr >>= fun b => f a b) fun Q E => wpAny (model prg w) A (eval (.Name x p1) env) (fun a' => wpAny (model prg w) A (eval (.Name y p2) env) (fun b' => W' a' b' Q E) E) E := fun r σ' hm hb s E Q S k =>
 bindC hm fun a σ1 h1 h2 => bindC h2 fun b σ2 h3 h4 => by
  obtain rfl : σ1 = σ := evNm_at h1
  obtain rfl : σ2 = σ1 := evNm_at h3
  exact evNm_tel C _ _ _ h1 hb s E _ S fun κ1 a' s1 k1 r1 S1 p1 => evNm_tel (C.mono k1) _ _ _ h3 hb s1 E _ S1 fun κ2 b' s2 k2 r2 S2 p2 => h (k1.trans k2) (Rel.mono k2 _ _ r1) r2 h1 h3 _ _ h4 hb s2 E Q S2 fun κ3 c s3 k3 => k κ3 c s3 (k1.trans (k2.trans k3))
theorem tr_same (C : Ctx' w n A κ fr env bs rest) {x y : Str} {p1 p2 p3 p4 p5 p6 p7 : Pos} {whole : Sem Value} : TelT w fr.base κ rest (fun _ b c => c = b) σ (trSame x y fr)
  (wpAny (model prg w) A (isTrue (.BoolOp .Or [.Compare (.Name x p1) [.Is] [.Name y p2] p3, .Compare (.Name x p4) [.Eq] [.Name y p5] p6] p7) env whole)) := by
 refine .imp (two_names (W' := fun a' b' Q E => wpAny (model prg w) A (do pure (.bool (<- isSame a' b'))) (fun v => wpAny (model prg w) A (truthy v) (fun b s => if b = true then Q true s else wpAny (model prg w) A (allTrue .Or [.Compare (.Name x p4) [.Eq] [.Name y p5] p6] env) Q E s) E) E) C fun {κ2 a b a' b'} k1 r1 r2 e1 e2 => .str r1 fun z t ea h1 ht => .str r2 fun u t' eb h2 hu => .guard fun hq => fun r σ' hm hb s E Q S k => ?_) fun Q E s h => wpAny_isTrue_BoolOp (wpAny_allTrue_Or_cons (wpAny_isTrue_Compare1 (hm := marks_no rfl) h))
 cases hm
 subst h1 h2 ea eb
 rw [Bool.and_eq_true] at hq
 refine wpAny_bind (same_str (ht hq.1).1 (hu hq.2).1 (noneBooked (C.T.mono k1.h) S.keep) (fun e => by rw [<- (ht hq.1).2, <- (hu hq.2).2, e]) fun b hb => wpAny_pure (wpAny_truthy_bool ?_))
 cases b with
 | true =>
  rw [if_pos rfl]
  exact k κ2 _ s Kle.rfl (decide_eq_true (hb rfl)).symm S Pres.rfl
 | false =>
  rw [if_neg Bool.false_ne_true]
  refine wpAny_allTrue_Or_cons (wpAny_isTrue_Compare1 (hm := marks_no rfl) ?_)
  refine two_names (f := fun a b => strV a >>= fun s => strV b >>= fun t => pure (decide (s = t))) (W' := fun a' b' Q E => wpAny (model prg w) A (compareOp .Eq a' b') (fun v => wpAny (model prg w) A (truthy v) (fun b s => if b = true then Q true s else wpAny (model prg w) A (allTrue .Or [] env) Q E s) E) E) (C.mono k1) (fun {κ4 a b a' b'} k3 r3 r4 e3 e4 => .str r3 fun z1 t1 ea h1 ht1 => .str r4 fun u1 t2 eb h2 hu1 => fun r σ' hm hb s E Q S k => ?_) (decide (z = u)) σ ?_ (by assumption) s E Q S k
  ·cases hm
   subst h1 h2
   refine P.eq_str ?_
   rw [str_eq_iff]
   refine wpAny_truthy_bool ?_
   by_cases e : z1 = u1
   ·rw [decide_eq_true e, if_pos rfl]; exact k κ4 _ s Kle.rfl (decide_eq_true e).symm S Pres.rfl
   ·rw [decide_eq_false e, if_neg Bool.false_ne_true]; exact wpAny_allTrue_Or_nil (k κ4 _ s Kle.rfl (decide_eq_false e).symm S Pres.rfl)
  ·show Option.bind (evNm x fr σ) _ = _
   rw [e1]
   show Option.bind (evNm y fr σ) _ = _
   rw [e2]
   rfl
theorem tr_tel (I : Snd L n) (C : Ctx' w n A κ fr env bs rest) (OK : Ok (n + 1) A) {e : Expr} : Tel w A fr.base κ rest (fun _ b c => c = b) (trStep L e fr) (isTrue e env (eval e env)) := fun σ => by
 cases e with
 | BoolOp op es p =>
  show TelT _ _ _ _ _ _ (trBool L op es fr) _
  unfold trBool
  cases q : (if op = .Or then sameE es else none) with
  | none => exact .imp (all_tel I es C σ) fun Q E s h => wpAny_isTrue_BoolOp h
  | some t =>
   obtain ⟨rfl, q⟩ := Option.ite_none_right_eq_some.mp q
   obtain ⟨p1, p2, p3, p4, p5, p6, rfl⟩ := sameE_inv q
   exact tr_same C
 | Compare l ops rs p =>
  refine .lift fun op e1 => .lift fun r e2 => ?_
  rw [one_inv e1, one_inv e2]
  exact tr_cmpK I C OK
 | _ => exact tr_plain I C
end
end Mine
end
section
open PySem PySem.W PyProof.Rows PySem.Calls PySem.SeqAt
open AutoSeq1 (wpAny_loadPart')
open MeetsSeq MeetsSeq2 MeetsSeq3 SeqRoads2
namespace Mine
inductive Ints : List Int -> List Value -> Prop
 | nil : Ints [] []
 | cons {i t x y} : Ints x y -> Ints (i :: x) (.int i t :: y)
theorem Ints.len {x y} (h : Ints x y) : y.length = x.length := by induction h <;> simp [*]
theorem Ints.get {x y} (h : Ints x y) {i : Nat} {a : Int} (e : x[i]? = some a) : ∃ t, y[i]? = some (.int a t) := by
 induction h generalizing i with
 | nil => simp at e
 | cons _ ih =>
  cases i with
  | zero => simp at e; subst e; exact ⟨_, rfl⟩
  | succ i => simp at e; simpa using ih e
section
variable {A : Around} {s : Shared}
theorem lt_loopAt (l b : Addr) (xs ys : List Int) (ux uy : List Value) (hx : Ints xs ux) (hy : Ints ys uy) (n n2 : Nat) (hsz : xs.length = ys.length) (k : Nat) :
  ∀ i : Nat, xs.length - i = k -> Meets (Builtin.«list.__eq__.loop» ⟨[.ref l, .ref b, rawInt i, rawInt 0], []⟩)
   (fun A R s => s.heap.get? l = some { cls := .type "list", data := .seq ux.toArray n } /\ s.heap.get? b = some { cls := .type "list", data := .seq uy.toArray n2 } /\
    R (.ok (.ret (.bool (ltInts (xs.drop i) (ys.drop i))))) s) := by
 have h1 := hx.len
 have h2 := hy.len
 induction k with
 | zero =>
  intro i hk prog w A R s h
  obtain ⟨hp, g, d, tk, os⟩ := s; obtain ⟨hl, hb, h⟩ := h
  wp_walk using wpAny_loadPart' hl, wpAny_loadPart' hb
  have hi1 : ux.toArray[((i : Nat) : Int).toNat]? = none := by simp; lia
  have hi2 : uy.toArray[((i : Nat) : Int).toNat]? = none := by simp; lia
  have hd : xs.drop i = [] := by simp; lia
  rw [hd] at h
  rw [hi1, hi2]
  wp_walk using wpAny_loadPart' hl, wpAny_loadPart' hb
  show R (.ok (.ret (.bool (decide (ux.toArray.size < uy.toArray.size))))) _
  have : decide (ux.toArray.size < uy.toArray.size) = false := by simp; lia
  rw [this]
  exact h
 | succ k ih =>
  intro i hk prog w A R s h
  obtain ⟨hp, g, d, tk, os⟩ := s; obtain ⟨hl, hb, h⟩ := h
  wp_walk using wpAny_loadPart' hl, wpAny_loadPart' hb
  have hlt : i < xs.length := by lia
  have hlt2 : i < ys.length := by lia
  obtain ⟨t, ht⟩ := hx.get (i := i) (List.getElem?_eq_getElem hlt)
  obtain ⟨u, hu⟩ := hy.get (i := i) (List.getElem?_eq_getElem hlt2)
  have hi1 : ux.toArray[((i : Nat) : Int).toNat]? = some (.int xs[i] t) := by simpa using ht
  have hi2 : uy.toArray[((i : Nat) : Int).toNat]? = some (.int ys[i] u) := by simpa using hu
  have hd : xs.drop i = xs[i] :: xs.drop (i + 1) := List.drop_eq_getElem_cons hlt
  have hd2 : ys.drop i = ys[i] :: ys.drop (i + 1) := List.drop_eq_getElem_cons hlt2
  have hc : ((i : Int) + 1) = ((i + 1 : Nat) : Int) := by push_cast; rfl
  rw [hd, hd2, ltInts_c] at h
  rw [hi1, hi2]
  refine wpAny_bind ((MeetsSeq.EqGives.int xs[i] ys[i] t u).at _ _ prog w _ _ ?_)
  by_cases he : xs[i] = ys[i]
  ·rw [if_pos he] at h
   rw [show (xs[i] == ys[i]) = true by simpa using he]
   wp_walk
   rw [hc]
   exact ⟨plainId_quiet plain_eq_loop _, codeAny_builtin entry_eq_loop (by
    rw [Around.under_plainId plain_eq_loop _]
    exact ih (i + 1) (by lia) prog w A R _ ⟨hl, hb, h⟩)⟩
  ·rw [if_neg he] at h
   rw [show (xs[i] == ys[i]) = false by simpa using he]
   wp_walk using wpAny_loadPart' hl, wpAny_loadPart' hb
   rw [hi1, hi2]
   refine wpAny_bind (P.lt_int ?_)
   wp_walk
   exact h
theorem list_ltAt (l b : Addr) (xs ys : List Int) (ux uy : List Value) (hx : Ints xs ux) (hy : Ints ys uy) (n n2 : Nat) (hsz : xs.length = ys.length) :
  Meets (Builtin.«list.__lt__» ⟨[.ref l, .ref b], []⟩)
   (fun A R s => s.heap.get? l = some { cls := .type "list", data := .seq ux.toArray n } /\ s.heap.get? b = some { cls := .type "list", data := .seq uy.toArray n2 } /\
    R (.ok (.ret (.bool (ltInts xs ys)))) s) := by
 intro prog w A R s h
 obtain ⟨hp, g, d, tk, os⟩ := s; obtain ⟨hl, hb, h⟩ := h
 have f3 := AutoSeq1.sub_list_list
 wp_walk using wpAny_loadPart' hl, wpAny_loadPart' hb
 exact ⟨plainId_quiet plain_eq_loop _, codeAny_builtin entry_eq_loop (by
  rw [Around.under_plainId plain_eq_loop _]
  exact lt_loopAt l b xs ys ux uy hx hy n n2 hsz _ 0 rfl prog w A R _ ⟨hl, hb, by simpa using h⟩)⟩
end
section
variable {w : World} {A : Around} {s : Shared} {E : Value -> Shared -> Prop}
theorem one_lt_lists {l b : Addr} {xs ys : List Int} {ux uy : List Value} (hx : Ints xs ux) (hy : Ints ys uy) (hl : Has w s.heap l (.list ux)) (hb : Has w s.heap b (.list uy)) (hsz : xs.length = ys.length) (hu : A.units < cLine) {Q : Bool -> Shared -> Prop}
  (h : Q (ltInts xs ys) s) : wpAny (model prg w) A (oneLt' true (.ref l) (.ref b)) Q E s := by
 refine hd fun P0 q0 => ?_
 obtain ⟨o, ho, -, n, rfl⟩ := hl
 obtain ⟨o2, ho2, -, n2, rfl⟩ := hb
 refine q0 ?_
 rw [oneLt'_eq]
 simp only [if_true]
 refine wpAny_bind (wpAny_cRoomFor hu ?_)
 refine wpAny_bind (wpAny_callSpecialIfBound?_slot (T := "list") ⟨_, ho, rfl⟩ PySem.F.slot_list_lt (call_meets PySem.F.slot_list_lt ⟨_, ho, rfl⟩ PySem.F.entry_list_lt (PySem.F.args_list_lt_2 _ _) (list_ltAt l b xs ys ux uy hx hy n n2 hsz) ⟨ho, ho2, ?_⟩))
 exact wpAny_truthy_bool h
theorem eq_lists {l b : Addr} {xs ys : List Int} {ux uy : List Value} (hx : Ints xs ux) (hy : Ints ys uy) (hl : Has w s.heap l (.list ux)) (hb : Has w s.heap b (.list uy)) (hsz : xs.length = ys.length) (hu : A.units < cLine) :
  EqAt A s (.ref l) (.ref b) (decide (xs = ys)) := by
 by_cases q : l = b
 ·subst q
  obtain ⟨o, ho, -, n, rfl⟩ := hl
  obtain ⟨o2, ho2, -, n2, e⟩ := hb
  rw [ho] at ho2; cases ho2
  have e2 : ux = uy := by injection e with _ _ e; injection e with e; injection e
  subst e2
  have : xs = ys := by
   clear hsz ho e hu
   induction hx generalizing ys with
   | nil => cases hy; rfl
   | cons _ ih => cases hy with | cons h => rw [ih h]
  rw [decide_eq_true this]
  exact EqAt.same _
 ·refine EqAt.of_refs q ?_
  have h1 := hx.len; have h2 := hy.len
  have := RcAt.lists (A := A) (e := fun j => decide (xs[j]? = ys[j]?)) hl.list hb.list (by simp; lia) hu fun j g1 g2 => by
   have k1 : j < xs.length := by simpa [h1] using g1
   have k2 : j < ys.length := by lia
   obtain ⟨t, ht⟩ := hx.get (i := j) (List.getElem?_eq_getElem k1)
   obtain ⟨u, hu'⟩ := hy.get (i := j) (List.getElem?_eq_getElem k2)
   have e1 : ux.toArray[j] = .int xs[j] t := by
    have : ux[j]? = some ux[j] := List.getElem?_eq_getElem (by lia)
    rw [this] at ht; simpa using ht
   have e2 : uy.toArray[j] = .int ys[j] u := by
    have : uy[j]? = some uy[j] := List.getElem?_eq_getElem (by lia)
    rw [this] at hu'; simpa using hu'
   rw [e1, e2]
   have := (MeetsSeq.EqGives.int xs[j] ys[j] t u).at A.in1 s
   rw [List.getElem?_eq_getElem k1, List.getElem?_eq_getElem k2]
   have e3 : decide (some xs[j] = some ys[j]) = (xs[j] == ys[j]) := by
    by_cases q : xs[j] = ys[j] <;> simp [q]
   rw [e3]; exact this
  have e : (List.range ux.toArray.size).all (fun j => decide (xs[j]? = ys[j]?)) = decide (xs = ys) := by
   rw [List.size_toArray, h1]
   by_cases q : xs = ys
   ·subst q; simp
   ·rw [decide_eq_false q, Bool.eq_false_iff]
    intro hh
    rw [List.all_eq_true] at hh
    apply q
    apply List.ext_getElem? fun j => ?_
    by_cases hj : j < xs.length
    ·simpa using hh j (by simpa using hj)
    ·rw [List.getElem?_eq_none (by lia), List.getElem?_eq_none (by lia)]
  rw [e] at this
  exact this
structure Row (w : World) (h : Heap) (xs : List Int) (k : Int) (v : Value) : Prop where
 ex : ∃ a l ux t, v = .ref a /\ Has w h a (.tup [.ref l, .int k t]) /\ Has w h l (.list ux) /\ Ints xs ux
theorem row_lt {x y : List Int × Int} {a b : Value} (ra : Row w s.heap x.1 x.2 a) (rb : Row w s.heap y.1 y.2 b) (hsz : x.1.length = y.1.length) (hu : A.units < cLine) {Q : Bool -> Shared -> Prop} (h : Q (ltRow x y) s) :
  wpAny (model prg w) A (keyLt' (tuples' true) a b) Q E s := by
 refine hd fun P0 q0 => ?_
 obtain ⟨pa, la, ux, t, rfl, ⟨oa, ha, na, rfl⟩, ha2, ix⟩ := ra
 obtain ⟨pb, lb, uy, u, rfl, ⟨ob, hb, nb, rfl⟩, hb2, iy⟩ := rb
 refine q0 ?_
 refine kat_lt ha rfl hb rfl ?_
 show KatLex prg w A true _ Q [(.ref la, .ref lb), (.int x.2 t, .int y.2 u)] 0 s
 refine kat_cons (eq_lists ix iy ha2 hb2 hsz hu prg w _ _ ?_)
 unfold ltRow at h
 by_cases q : x.1 = y.1
 ·rw [if_pos q] at h
  rw [decide_eq_true q]
  refine kat_yes (kat_cons ((MeetsSeq.EqGives.int x.2 y.2 t u).at A s prg w _ _ ?_))
  by_cases q2 : x.2 = y.2
  ·rw [show (x.2 == y.2) = true by simpa using q2]
   refine kat_yes (kat_nil ?_)
   rw [decide_eq_false (by lia)] at h
   simpa using h
  ·rw [show (x.2 == y.2) = false by simpa using q2]
   refine kat_no ?_
   show wpAny _ A (oneLt' false _ _) Q _ s
   exact kat_one _ _ (P.lt_int h)
 ·rw [if_neg q] at h
  rw [decide_eq_false q]
  refine kat_no ?_
  show wpAny _ A (oneLt' true _ _) Q _ s
  exact one_lt_lists ix iy ha2 hb2 hsz hu h
end
noncomputable def kasRun {α : Type} (n : Nat) (b : Nat -> Nat -> Bool) : KasT α -> Option α
 | .ret a => some a
 | .ask i j k => if i < n /\ j < n then kasRun n b (k (b i j)) else none
theorem kasRun_a {α : Type} {n : Nat} {b : Nat -> Nat -> Bool} {i j : Nat} {k : Bool -> KasT α} : kasRun n b (.ask i j k) = if i < n /\ j < n then kasRun n b (k (b i j)) else none := rfl
theorem kas_told {α : Type} {n : Nat} {b : Nat -> Nat -> Bool} {cmp : Nat -> Nat -> (Bool -> Shared -> Prop) -> Shared -> Prop} {s : Shared} (hc : ∀ i j C, i < n -> j < n -> C (b i j) s -> cmp i j C s) {Q : α -> Shared -> Prop} :
  ∀ (t : KasT α) {a : α}, kasRun n b t = some a -> Q a s -> t.kasWp cmp Q s
 | .ret a, _, h, hq => by cases h; exact hq
 | .ask i j k, a, h, hq => by
  rw [kasRun_a] at h
  split at h
  ·rename_i hij
   exact hc i j _ hij.1 hij.2 (kas_told hc (k (b i j)) h hq)
  ·cases h
theorem kasRun_congr {α : Type} {n : Nat} {b c : Nat -> Nat -> Bool} (h : ∀ i j, i < n -> j < n -> b i j = c i j) : ∀ (t : KasT α), kasRun n b t = kasRun n c t
 | .ret _ => rfl
 | .ask i j k => by
  rw [kasRun_a, kasRun_a]
  split
  ·rename_i hij
   rw [h i j hij.1 hij.2]
   exact kasRun_congr h _
  ·rfl
noncomputable def byRank (ρ : List Nat) (i j : Nat) : Bool := decide (ρ.getD i 0 < ρ.getD j 0)
noncomputable def okRank (ρ : List Nat) : Bool := (kasRun 6 (byRank ρ) (kas_sort 6)).map Array.toList == some (sortIdx (byRank ρ) [0, 1, 2, 3, 4, 5] [])
noncomputable def allRanks : Nat -> List Nat -> Bool
 | 0, used => okRank used
 | n + 1, used => [0, 1, 2, 3, 4, 5].all fun a => used.contains a || allRanks n (a :: used)
theorem allRanks_s {n : Nat} {used : List Nat} : allRanks (n + 1) used = [0, 1, 2, 3, 4, 5].all fun a => used.contains a || allRanks n (a :: used) := rfl
theorem all_ranks : allRanks 6 [] = true := by decide +kernel
theorem allRanks_ok : ∀ (n : Nat) (used : List Nat), allRanks n used = true -> ∀ l : List Nat, l.length = n -> (l ++ used).Nodup -> (∀ a ∈ l, a < 6) -> okRank (l ++ used) = true
 | 0, used, h, l, hl, _, _ => by
  have : l = [] := List.eq_nil_of_length_eq_zero hl
  subst this; exact h
 | n + 1, used, h, l, hl, hn, hb => by
  rcases List.eq_nil_or_concat l with rfl | ⟨l', a, rfl⟩
  ·simp at hl
  rw [allRanks_s, List.all_eq_true] at h
  have ha : a < 6 := hb a (by simp)
  have h2 := h a (by
   have : a = 0 ∨ a = 1 ∨ a = 2 ∨ a = 3 ∨ a = 4 ∨ a = 5 := by lia
   simpa using this)
  rw [List.concat_eq_append, List.append_assoc, List.singleton_append] at hn ⊢
  rw [Bool.or_eq_true] at h2
  rcases h2 with h2 | h2
  ·have h3 := (List.nodup_append.mp hn).2.1
   rw [List.nodup_cons] at h3
   exact absurd (by simpa using h2) h3.1
  ·exact allRanks_ok n (a :: used) h2 l' (by simpa using hl) hn (fun x hx => hb x (by simp [hx]))
structure Strict (b : Nat -> Nat -> Bool) : Prop where
 irr : ∀ i, i < 6 -> b i i = false
 trans : ∀ i j k, i < 6 -> j < 6 -> k < 6 -> b i j = true -> b j k = true -> b i k = true
 tot : ∀ i j, i < 6 -> j < 6 -> i ≠ j -> b i j = true ∨ b j i = true
noncomputable def rank (b : Nat -> Nat -> Bool) (i : Nat) : Nat := (List.range 6).countP fun j => b j i
theorem countP_lt {α : Type} {p q : α -> Bool} : ∀ {l : List α}, (∀ x ∈ l, p x = true -> q x = true) -> (∃ x ∈ l, q x = true /\ p x = false) -> l.countP p < l.countP q
 | [], _, ⟨_, h, _⟩ => by cases h
 | a :: l, h, ⟨x, hx, hq, hp⟩ => by
  rw [List.countP_cons, List.countP_cons]
  have hle : l.countP p <= l.countP q := List.countP_mono_left fun y hy => h y (.tail _ hy)
  rcases List.mem_cons.mp hx with rfl | hx
  ·rw [hq, hp]; simp; lia
  ·have := countP_lt (fun y hy => h y (.tail _ hy)) ⟨x, hx, hq, hp⟩
   have h0 := h a (.head _)
   cases ha : p a with
   | true => rw [h0 ha]; simp; exact this
   | false => cases q a <;> simp <;> lia
variable {b : Nat -> Nat -> Bool}
theorem rank_lt (S : Strict b) {i j : Nat} (hi : i < 6) (hj : j < 6) (h : b i j = true) : rank b i < rank b j :=
 countP_lt (fun k hk hki => S.trans k i j (by simpa using hk) hi hj hki h) ⟨i, by simpa using hi, h, S.irr i hi⟩
theorem rank_iff (S : Strict b) {i j : Nat} (hi : i < 6) (hj : j < 6) : b i j = decide (rank b i < rank b j) := by
 cases h : b i j with
 | true => rw [decide_eq_true (rank_lt S hi hj h)]
 | false =>
  symm; rw [decide_eq_false_iff_not]
  intro hl
  by_cases q : i = j
  ·subst q; lia
  ·rcases S.tot i j hi hj q with h2 | h2
   ·rw [h] at h2; cases h2
   ·have := rank_lt S hj hi h2; lia
theorem rank_six (S : Strict b) {i : Nat} (hi : i < 6) : rank b i < 6 := by
 have h1 := countP_lt (p := fun j => b j i) (q := fun _ => true) (l := List.range 6) (fun _ _ _ => rfl) ⟨i, by simpa using hi, rfl, S.irr i hi⟩
 have : (List.range 6).countP (fun _ => true) = 6 := by decide
 unfold rank; lia
noncomputable def ranks (b : Nat -> Nat -> Bool) : List Nat := [rank b 0, rank b 1, rank b 2, rank b 3, rank b 4, rank b 5]
theorem ranks_get {i : Nat} (hi : i < 6) : (ranks b).getD i 0 = rank b i := by
 match i, hi with
 | 0, _ | 1, _ | 2, _ | 3, _ | 4, _ | 5, _ => rfl
theorem ranks_nodup (S : Strict b) : (ranks b).Nodup := by
 have ne : ∀ {i j}, i < 6 -> j < 6 -> i ≠ j -> rank b i ≠ rank b j := fun hi hj q e => by
  rcases S.tot _ _ hi hj q with h | h
  ·have := rank_lt S hi hj h; lia
  ·have := rank_lt S hj hi h; lia
 unfold ranks
 simp only [List.nodup_cons, List.mem_cons, List.not_mem_nil, or_false, not_or, not_false_eq_true, List.nodup_nil, and_true]
 refine ⟨⟨?_, ?_, ?_, ?_, ?_⟩, ⟨?_, ?_, ?_, ?_⟩, ⟨?_, ?_, ?_⟩, ⟨?_, ?_⟩, ?_⟩ <;> exact ne (by decide) (by decide) (by decide)
theorem sortIdx_congr {b c : Nat -> Nat -> Bool} (h : ∀ i j, i < 6 -> j < 6 -> b i j = c i j) : ∀ (xs acc : List Nat), (∀ x ∈ xs, x < 6) -> (∀ x ∈ acc, x < 6) -> sortIdx b xs acc = sortIdx c xs acc := by
 have ins : ∀ (x : Nat) (acc : List Nat), x < 6 -> (∀ y ∈ acc, y < 6) -> insIdx b x acc = insIdx c x acc /\ ∀ y ∈ insIdx b x acc, y < 6 := by
  intro x acc hx
  induction acc with
  | nil => intro _; exact ⟨rfl, fun y hy => by have hy : y ∈ [x] := hy; simp at hy; lia⟩
  | cons z acc ih =>
   intro hacc
   have hz := hacc z (.head _)
   have ih := ih fun y hy => hacc y (.tail _ hy)
   rw [insIdx_c, insIdx_c, <- h x z hx hz, <- ih.1]
   refine ⟨rfl, fun y hy => ?_⟩
   split at hy
   ·rcases List.mem_cons.mp hy with rfl | hy
    ·exact hx
    ·exact hacc y hy
   ·rcases List.mem_cons.mp hy with rfl | hy
    ·exact hz
    ·exact ih.2 y hy
 intro xs
 induction xs with
 | nil => intro acc _ _; rfl
 | cons x xs ih =>
  intro acc hxs hacc
  have := ins x acc (hxs x (.head _)) hacc
  rw [sortIdx_c, sortIdx_c, <- this.1]
  exact ih _ (fun y hy => hxs y (.tail _ hy)) this.2
theorem kas_six (S : Strict b) : kasRun 6 b (kas_sort 6) = some (sortIdx b [0, 1, 2, 3, 4, 5] []).toArray := by
 have e : ∀ i j, i < 6 -> j < 6 -> b i j = byRank (ranks b) i j := fun i j hi hj => by
  unfold byRank; rw [ranks_get hi, ranks_get hj]; exact rank_iff S hi hj
 have h := allRanks_ok 6 [] all_ranks (ranks b) rfl (by rw [List.append_nil]; exact ranks_nodup S) (by
  unfold ranks
  simp only [List.forall_mem_cons]
  refine ⟨?_, ?_, ?_, ?_, ?_, ?_, fun _ h => by cases h⟩ <;> exact rank_six S (by decide))
 rw [List.append_nil] at h
 unfold okRank at h
 have h := eq_of_beq h
 rw [kasRun_congr e, sortIdx_congr e _ _ (by decide) (by decide)]
 cases q : kasRun 6 (byRank (ranks b)) (kas_sort 6) with
 | none => rw [q] at h; cases h
 | some a =>
  rw [q] at h
  have h : a.toList = _ := Option.some.inj h
  rw [<- h]
section
variable {w : World} {A : Around} {s : Shared} {E : Value -> Shared -> Prop}
noncomputable def Rows (w : World) (h : Heap) : List (List Int × Int) -> List Value -> Prop
 | [], vs => vs = []
 | r :: rs, vs => ∃ v us, vs = v :: us /\ Row w h r.1 r.2 v /\ Rows w h rs us
theorem Rows.len {h : Heap} : ∀ {rs : List (List Int × Int)} {vs : List Value}, Rows w h rs vs -> vs.length = rs.length
 | [], _, e => by subst e; rfl
 | _ :: _, _, ⟨_, _, e, _, t⟩ => by subst e; simp [Rows.len t]
theorem Rows.get {h : Heap} : ∀ {rs : List (List Int × Int)} {vs : List Value} {i : Nat}, Rows w h rs vs -> i < rs.length -> Row w h (rs.getD i ([], 0)).1 (rs.getD i ([], 0)).2 (vs.getD i .none)
 | _ :: _, _, 0, ⟨_, _, e, r, _⟩, _ => by subst e; exact r
 | _ :: _, _, i + 1, ⟨_, _, e, _, t⟩, h => by subst e; have := Rows.get (i := i) t (by simpa using h); simpa using this
theorem Row.mono {h h' : Heap} {xs : List Int} {k : Int} {v : Value} (r : Row w h xs k v) (x : Ext h h') : Row w h' xs k v :=
 let ⟨a, l, ux, t, e, h1, h2, i⟩ := r.ex; ⟨a, l, ux, t, e, h1.mono x, h2.mono x, i⟩
theorem Rows.mono {h h' : Heap} (x : Ext h h') : ∀ {rs : List (List Int × Int)} {vs : List Value}, Rows w h rs vs -> Rows w h' rs vs
 | [], _, e => e
 | _ :: _, _, ⟨v, us, e, r, t⟩ => ⟨v, us, e, r.mono x, Rows.mono x t⟩
theorem ltInts_irr : ∀ (x : List Int), ltInts x x = false
 | [] => rfl
 | a :: x => by rw [ltInts_c, if_pos rfl]; exact ltInts_irr x
theorem ltInts_trans : ∀ {x y z : List Int}, ltInts x y = true -> ltInts y z = true -> ltInts x z = true
 | [], _, _, h, _ => by cases h
 | _ :: _, [], _, h, _ => by cases h
 | _ :: _, _ :: _, [], _, h => by cases h
 | a :: x, b :: y, c :: z, h1, h2 => by
  rw [ltInts_c] at h1 h2 ⊢
  by_cases p : a = b
  ·subst p
   rw [if_pos rfl] at h1
   by_cases q : a = c
   ·subst q; rw [if_pos rfl] at h2 ⊢; exact ltInts_trans h1 h2
   ·rw [if_neg q] at h2 ⊢; exact h2
  ·rw [if_neg p] at h1
   by_cases q : b = c
   ·subst q; rw [if_neg p]; exact h1
   ·rw [if_neg q] at h2
    simp only [decide_eq_true_eq] at h1 h2
    rw [if_neg (by lia)]
    simp only [decide_eq_true_eq]; lia
theorem ltInts_tot : ∀ {x y : List Int}, x.length = y.length -> x ≠ y -> ltInts x y = true ∨ ltInts y x = true
 | [], [], _, h => absurd rfl h
 | [], _ :: _, h, _ | _ :: _, [], h, _ => by simp at h
 | a :: x, b :: y, hl, hn => by
  rw [ltInts_c, ltInts_c]
  by_cases p : a = b
  ·subst p; rw [if_pos rfl, if_pos rfl]; exact ltInts_tot (by simpa using hl) fun e => hn (by rw [e])
  ·rw [if_neg p, if_neg (Ne.symm p)]
   simp only [decide_eq_true_eq]; lia
theorem ltRow_trans {x y z : List Int × Int} (h1 : ltRow x y = true) (h2 : ltRow y z = true) : ltRow x z = true := by
 unfold ltRow at h1 h2 ⊢
 by_cases p : x.1 = y.1
 ·rw [if_pos p] at h1
  by_cases q : y.1 = z.1
  ·rw [if_pos q] at h2; rw [if_pos (p.trans q)]
   simp only [decide_eq_true_eq] at h1 h2 ⊢; lia
  ·rw [if_neg q] at h2; rw [p, if_neg q]; exact h2
 ·rw [if_neg p] at h1
  by_cases q : y.1 = z.1
  ·rw [if_neg (by rw [<- q]; exact p), <- q]; exact h1
  ·rw [if_neg q] at h2
   have := ltInts_trans h1 h2
   rw [if_neg fun e => by rw [e, ltInts_irr] at this; cases this]
   exact this
theorem rows_strict {rows : List (List Int × Int)} (hk : rows.map (·.2) = [0, 1, 2, 3, 4, 5]) (hl : (rows.all fun r => r.1.length == (rows.headD ([], 0)).1.length) = true) : Strict (rowLt rows) := by
 have hlen : rows.length = 6 := by have := congrArg List.length hk; simpa using this
 have hget : ∀ i, i < 6 -> (rows.getD i ([], 0)).2 = (i : Int) := by
  intro i hi
  have h1 : (rows.map (·.2)).getD i 0 = (rows.getD i ([], 0)).2 := by
   simp only [List.getD_eq_getElem?_getD, List.getElem?_map]
   rw [List.getElem?_eq_getElem (by lia)]; rfl
  rw [<- h1, hk]
  match i, hi with
  | 0, _ | 1, _ | 2, _ | 3, _ | 4, _ | 5, _ => rfl
 have hlen2 : ∀ i j, i < 6 -> j < 6 -> (rows.getD i ([], 0)).1.length = (rows.getD j ([], 0)).1.length := by
  have : ∀ i, i < 6 -> (rows.getD i ([], 0)).1.length = (rows.headD ([], 0)).1.length := fun i hi => by
   have := List.all_eq_true.mp hl (rows.getD i ([], 0)) (by
    simp only [List.getD_eq_getElem?_getD]
    rw [List.getElem?_eq_getElem (by lia)]
    exact List.getElem_mem _)
   simpa using this
  intro i j hi hj; rw [this i hi, this j hj]
 refine ⟨fun i _ => ?_, fun i j k _ _ _ h1 h2 => ltRow_trans h1 h2, fun i j hi hj hn => ?_⟩
 ·unfold rowLt ltRow; rw [if_pos rfl]; simp
 ·unfold rowLt ltRow
  by_cases e : (rows.getD i ([], 0)).1 = (rows.getD j ([], 0)).1
  ·rw [if_pos e, if_pos e.symm, hget i hi, hget j hj]
   simp only [decide_eq_true_eq]; lia
  ·rw [if_neg e, if_neg (Ne.symm e)]
   exact ltInts_tot (hlen2 i j hi hj) e
theorem rows_kind {rows : List (List Int × Int)} {vs : List Value} (r : Rows w s.heap rows vs) (h0 : rows ≠ []) {Q : SortKind -> Shared -> Prop} (h : Q (tuples' true) s) : wpAny (model prg w) A (keyKind' vs.toArray) Q E s := by
 have key : ∀ {rows : List (List Int × Int)} {vs : List Value}, Rows w s.heap rows vs -> ∃ fs, KatTups s.heap vs fs /\ fs.length = rows.length /\ ∀ v ∈ fs, Looks (model prg w) s.heap (typeOf v) (.type "list") := by
  intro rows
  induction rows with
  | nil => intro vs e; cases e; exact ⟨[], trivial, rfl, fun v hv => by cases hv⟩
  | cons r rs ih =>
   rintro vs ⟨v, us, rfl, hr, t⟩
   obtain ⟨fs, h1, h2, h3⟩ := ih t
   obtain ⟨a, l, ux, tk, rfl, ⟨o, ho, n, rfl⟩, ⟨o2, ho2, -, n2, rfl⟩, ix⟩ := hr.ex
   refine ⟨.ref l :: fs, KatTups.cons ho rfl rfl rfl h1, by simp [h2], fun v hv => ?_⟩
   rcases List.mem_cons.mp hv with rfl | hv
   ·exact (Looks.ld (part := none) ho2).andThen .now
   ·exact h3 v hv
 obtain ⟨fs, h1, h2, h3⟩ := key r
 exact kat_kind h1 (by rw [h2]; exact List.length_pos_iff.mpr h0) h3 rfl h
theorem sorted_six {l : Addr} {rows : List (List Int × Int)} {vs : List Value} (hl : s.heap.IsList l vs.toArray) (r : Rows w s.heap rows vs) (hk : rows.map (·.2) = [0, 1, 2, 3, 4, 5]) (hs : (rows.all fun r => r.1.length == (rows.headD ([], 0)).1.length) = true) (hu : A.units + 2 < cLine)
  {Q : Value -> Shared -> Prop} (h : Q (.ref (s.heap.objs.size + 1)) { s with heap := sortedAll s.heap vs ((sortIdx (rowLt rows) [0, 1, 2, 3, 4, 5] []).map fun i => vs.getD i .none).toArray }) :
  wpAny (model prg w) A (PySem.call (.builtin "sorted") [.ref l]) Q E s := by
 have hlen : rows.length = 6 := by have := congrArg List.length hk; simpa using this
 have hv : vs.length = 6 := by rw [r.len, hlen]
 refine Calls.call_function_entry kind_sorted plain_sorted entry_sorted (args_sorted1 _) ?_
 unfold Builtin.«sorted»
 refine wpAny_bind (m := checkCount "sorted" 1 1 _) (wpAny_pure ?_)
 refine wpAny_bind (collect_list hl ?_ (by rw [sizeLine_eq]; lia))
 refine wpAny_bind (wpAny_newList ?_ (by rw [sizeLine_eq]; lia))
 have hsz : ((s.heap.push (seqObj "list" #[] 0)).update s.heap.objs.size (Obj.mapSeq (· ++ vs.toArray))).objs.size = s.heap.objs.size + 1 := by
  rw [Heap.size_update, size_push']
 have hoL : (((s.heap.push (seqObj "list" #[] 0)).update s.heap.objs.size (Obj.mapSeq (· ++ vs.toArray))).push (seqObj "list" vs.toArray 0)).get? (s.heap.objs.size + 1) = some (seqObj "list" vs.toArray 0) := by
  rw [<- hsz]; exact Heap.get?_push_size _ rfl
 have keep : ∀ b o, s.heap.get? b = some o -> (((s.heap.push (seqObj "list" #[] 0)).update s.heap.objs.size (Obj.mapSeq (· ++ vs.toArray))).push (seqObj "list" vs.toArray 0)).get? b = some o := fun b o q => by
  have hlt : b < s.heap.objs.size := Heap.lt_size q
  rw [Heap.get?_push_ne _ _ _ (by rw [hsz]; exact Nat.ne_of_lt (Nat.lt_succ_of_lt hlt)), Heap.get?_update_ne _ _ _ _ (Nat.ne_of_lt hlt), Heap.get?_push_ne _ _ _ (Nat.ne_of_lt hlt)]
  exact q
 show wpAny _ _ _ _ _ { s with heap := ((s.heap.push (seqObj "list" #[] 0)).update s.heap.objs.size (Obj.mapSeq (· ++ vs.toArray))).push (seqObj "list" vs.toArray 0) }
 rw [hsz]
 refine wpAny_bind (wpAny_holding (wpAny_call_entry slot_list_sort ⟨_, hoL, rfl⟩ entry_list_sort ?body (args_list_sort _)))
 case body =>
  generalize hH : ((s.heap.push (seqObj "list" #[] 0)).update s.heap.objs.size (Obj.mapSeq (· ++ vs.toArray))).push (seqObj "list" vs.toArray 0) = H at hoL keep
  have hall : sortedAll s.heap vs ((sortIdx (rowLt rows) [0, 1, 2, 3, 4, 5] []).map fun i => vs.getD i .none).toArray = sortedHeap H (s.heap.objs.size + 1) vs ((sortIdx (rowLt rows) [0, 1, 2, 3, 4, 5] []).map fun i => vs.getD i .none).toArray := by
   unfold sortedAll; rw [hH]
  rw [hall] at h
  rw [list_sort_plain]
  have ha : s.heap.objs.size + 1 < H.objs.size := Heap.lt_size hoL
  refine wpAny_bind (listItems_at hoL rfl ?_)
  refine wpAny_bind (listUpdate_at hoL rfl ?_ (by rw [List.size_toArray, sizeLine_eq]; lia) (Nat.zero_le _))
  obtain ⟨e1, ho1⟩ : ∃ e1, (H.update (s.heap.objs.size + 1) (Obj.mapSeq fun _ => (#[] : Array Value))).get? (s.heap.objs.size + 1) = some (seqObj "list" #[] e1) := ⟨_, get?_update_seq hoL fun _ => #[]⟩
  refine wpAny_bind (seqEpoch_at ho1 rfl ?_)
  refine wpAny_bind (wpAny_newTuple ?_ (by show vs.length <= _; rw [sizeLine_eq]; lia))
  refine wpAny_bind (wpAny_newList ?_ (Nat.zero_le _))
  refine wpAny_holding ?_
  have ho6 : (((H.update (s.heap.objs.size + 1) (Obj.mapSeq fun _ => (#[] : Array Value))).push (seqObj "tuple" vs.toArray 0)).push (seqObj "list" #[] 0)).get? (s.heap.objs.size + 1) = some (seqObj "list" #[] e1) :=
   Heap.get?_push_of_some _ (Heap.get?_push_of_some _ ho1)
  have keep6 : Ext s.heap (((H.update (s.heap.objs.size + 1) (Obj.mapSeq fun _ => (#[] : Array Value))).push (seqObj "tuple" vs.toArray 0)).push (seqObj "list" #[] 0)) := fun b o q => by
   have hlt : b < s.heap.objs.size := Heap.lt_size q
   exact Heap.get?_push_of_some _ (Heap.get?_push_of_some _ (by rw [Heap.get?_update_ne _ _ _ _ (Nat.ne_of_lt (Nat.lt_succ_of_lt hlt))]; exact keep b o q))
  show wpAny (model prg w) _ _ _ E { s with heap := ((H.update (s.heap.objs.size + 1) (Obj.mapSeq fun _ => (#[] : Array Value))).push (seqObj "tuple" vs.toArray 0)).push (seqObj "list" #[] 0) }
  dsimp only
  have hn2 : ¬ vs.toArray.size < 2 := by rw [List.size_toArray]; lia
  rw [if_neg hn2, if_neg hn2]
  have r6 := r.mono keep6
  refine wpAny_bind (rows_kind (s := { s with heap := ((H.update (s.heap.objs.size + 1) (Obj.mapSeq fun _ => (#[] : Array Value))).push (seqObj "tuple" vs.toArray 0)).push (seqObj "list" #[] 0) }) r6 (by intro q; rw [q] at hlen; cases hlen) ?_)
  refine wpAny_bind (wpAny_mono (kat_run (ks := vs) (vs := vs) (κ := tuples' true) (G := fun p s' => p = (sortIdx (rowLt rows) [0, 1, 2, 3, 4, 5] []).toArray /\ s' = { s with heap := ((H.update (s.heap.objs.size + 1) (Obj.mapSeq fun _ => (#[] : Array Value))).push (seqObj "tuple" vs.toArray 0)).push (seqObj "list" #[] 0) })
   (Q := fun st' s' => (arrOf st').map (·.2) = ((sortIdx (rowLt rows) [0, 1, 2, 3, 4, 5] []).map fun i => vs.getD i .none).toArray /\ failedOf st' = none /\ s' = { s with heap := ((H.update (s.heap.objs.size + 1) (Obj.mapSeq fun _ => (#[] : Array Value))).push (seqObj "tuple" vs.toArray 0)).push (seqObj "list" #[] 0) })
   rfl (by lia) (by lia) (fun p st' s' a1 a2 a3 a4 => ?_) ?_) ?_ fun _ _ e => e)
  ·obtain ⟨rfl, rfl⟩ := a4
   refine ⟨?_, a3, rfl⟩
   rw [kat_snds rfl a2]
  ·rw [hv]
   refine kas_told (n := 6) (b := rowLt rows) (fun i j C hi hj hC => ?_) (kas_sort 6) (kas_six (rows_strict hk hs)) ⟨rfl, rfl⟩
   unfold kas_ask
   refine row_lt (x := rows.getD i ([], 0)) (y := rows.getD j ([], 0)) (Rows.get r6 (by lia)) (Rows.get r6 (by lia)) ?_ ?_ hC
   ·have len : ∀ i, i < 6 -> (rows.getD i ([], 0)).1.length = (rows.headD ([], 0)).1.length := fun i hi => by
     have := List.all_eq_true.mp hs (rows.getD i ([], 0)) (by
      simp only [List.getD_eq_getElem?_getD]
      rw [List.getElem?_eq_getElem (by lia)]
      exact List.getElem_mem _)
     simpa using this
    rw [len i hi, len j hj]
   ·exact hu
  ·rintro ⟨⟨⟩, st'⟩ s' ⟨hout, hf, rfl⟩
   dsimp only
   rw [hout]
   refine wpAny_bind (seqEpoch_at ho6 rfl ?_)
   refine wpAny_bind (listUpdate_at ho6 rfl ?_ (Nat.zero_le _) (by
    rw [List.size_toArray, List.length_map, sizeLine_eq]
    have : ∀ (b : Nat -> Nat -> Bool) (xs acc : List Nat), (sortIdx b xs acc).length = xs.length + acc.length := by
     intro b xs
     induction xs with
     | nil => intro acc; simp [sortIdx_n]
     | cons x xs ih =>
      intro acc
      have hi : ∀ acc : List Nat, (insIdx b x acc).length = acc.length + 1 := by
       intro acc
       induction acc with
       | nil => rfl
       | cons y ys ih => rw [insIdx_c]; split <;> simp [ih]
      rw [sortIdx_c, ih, hi]; simp; lia
    rw [this]; decide))
   rw [hf]
   simp only [bne_self_eq_false, Bool.false_eq_true, if_false]
   exact wpAny_pure ⟨_, rfl, wpAny_pure ⟨_, rfl, h⟩⟩
end
end Mine
end
section
open PySem PySem.W PyProof.Rows PySem.Calls PySem.SeqAt
open PySem.Builtin
namespace Mine
section
variable {w : World} {A : Around} {base n : Nat} {κ : Kw} {rest l : List (Addr × Sh)} {σ : List O} {h : Heap} {v : V} {v' : Value} {vs : List V} {vs' : List Value} {s : Shared} {E : Value -> Shared -> Prop} {args : List V} {args' : List Value}
theorem args_iter2 (a b : Value) : argsOk "iter" ⟨[a, b], []⟩ := by unfold argsOk; kernel_rfl
theorem look_method_call : typeLookup (.type "method") "__call__" = pure (some (.builtin "method.__call__")) := by kernel_rfl
theorem iter_tel (r : Rels w κ args args') : TelT w base κ rest (Rel w) σ (biIter args) (wpAny (model prg w) A (PySem.call (.builtin "iter") args')) := by
 delta biIter
 refine .two (W := fun as => wpAny (model prg w) A (PySem.call (.builtin "iter") as)) r fun q v' u' rv ru => ?_
 obtain ⟨q1, q2⟩ := q
 refine .str ru fun z t _ e _ => .guard fun c => .leaf fun a σ' e' hb s E Q S k => ?_
 obtain ⟨c1, c2⟩ := Bool.and_eq_true_iff.mp c
 obtain rfl := of_decide_eq_true c2
 cases e'
 subst e
 cases q1 with
 | meth f C j =>
  obtain ⟨a, x, d, hk, rfl, f1, f2⟩ := id rv
  refine call_function_entry (by decide +kernel) (by decide +kernel) kdk_entry_iter (args_iter2 _ _) ?_
  unfold Builtin.«iter»
  refine wpAny_bind (m := someArgs "iter" 1 2 _) (wpAny_of_eq (a := [Value.ref a, .str Str.empty t]) (by first | rfl | kernel_rfl!) ?_)
  dsimp only
  refine wpAny_bind (wpAny_specialOf (show s.TypeIs (.ref a) "method" from ⟨_, (f1.mono S.keep).get, rfl⟩) look_method_call ?_)
  refine wpAny_bind (wpAny_rule (wpAny_bind ?_))
  obtain ⟨l, D⟩ := S.led
  refine wpAny_newObj_type (wpAny_pure ⟨_, rfl, ?_⟩) (by size_fits)
  have S2 := D.alloc _ s.heap.objs.size (.citer (some (.meth f C j))) (.exact { cls := .type "callable_iterator", data := .fields #[.ref a, .str Str.empty t, .bool false] }) ⟨_, t, _, rfl, rfl, rfl, Rel.mono Kle.push _ _ rv⟩
   (D.st.push (x := .exact { cls := .type "callable_iterator", data := .fields #[.ref a, .str Str.empty t, .bool false] }) rfl rfl)
  exact k ⟨κ.h, κ.ρ ++ [s.heap.objs.size], κ.τ⟩ _ _ Kle.push ⟨s.heap.objs.size, by rw [<- S.len]; exact List.getElem?_concat_length, rfl⟩ S2 (Pres.alloc _)
 | _ => cases c1
theorem strs_len {os : List Value} {ss : List Str} (h : StrsAre os ss) : os.length = ss.length := by induction h <;> simp only [List.length_cons, List.length_nil, *]
theorem strsOf_rel : ∀ {vs : List V} {ss : List Str} {vs' : List Value}, strsOf vs = some ss -> Rels w κ vs vs' -> StrsAre vs' ss := by
 intro vs
 induction vs with
 | nil => intro ss vs' h e; cases h; cases e; exact .nil
 | cons v vs ih =>
  rintro ss _ h ⟨y, ys, rfl, rv, rt⟩
  cases v with
  | str z =>
   obtain ⟨r, q, rfl⟩ := Option.map_eq_some_iff.mp h
   obtain ⟨t, rfl, -⟩ := rv
   exact .cons _ _ (ih q rt)
  | _ => cases h
theorem intsOf_rel : ∀ {vs : List V} {ns : List Int} {vs' : List Value}, intsOf vs = some ns -> Rels w κ vs vs' -> Ints ns vs' := by
 intro vs
 induction vs with
 | nil => intro ns vs' h e; cases h; cases e; exact .nil
 | cons v vs ih =>
  rintro ns _ h ⟨y, ys, rfl, rv, rt⟩
  cases v with
  | int z =>
   obtain ⟨r, q, rfl⟩ := Option.map_eq_some_iff.mp h
   obtain ⟨t, rfl⟩ := rv
   exact .cons (ih q rt)
  | _ => cases h
theorem rowsOf_rel (k : Ext κ.h h) : ∀ {vs : List V} {rows : List (List Int × Int)} {vs' : List Value}, rowsOf vs = some rows -> Rels w κ vs vs' -> Rows w h rows vs'
 | [], _, _, hr, e => by cases hr; cases e; exact rfl
 | v :: vs, rows, _, hr, r => by
  obtain ⟨y, ys, rfl, rv, rt⟩ := r
  obtain ⟨r, q, hr⟩ := Option.bind_eq_some_iff.mp hr
  obtain ⟨rs, q2, rfl⟩ := Option.map_eq_some_iff.mp hr
  obtain ⟨us, h1, q⟩ := Option.bind_eq_some_iff.mp q
  obtain ⟨p, h2, q⟩ := Option.bind_eq_some_iff.mp q
  obtain ⟨is', h3, q⟩ := Option.bind_eq_some_iff.mp q
  obtain ⟨kk, h4, q⟩ := Option.bind_eq_some_iff.mp q
  obtain ⟨ns, q9, rfl⟩ := Option.map_eq_some_iff.mp q
  rw [tup_inv h1, two_inv h2, list_inv h3, int_inv h4] at rv
  obtain ⟨a, us, rfl, f, u1, r1, rfl, ru1, u2, r2, rfl, ⟨t, rfl⟩, rfl⟩ := rv
  obtain ⟨l2, ux, rfl, f2, rx⟩ := ru1
  exact ⟨_, _, rfl, ⟨a, l2, ux, t, rfl, f.mono k, f2.mono k, intsOf_rel q9 rx⟩, rowsOf_rel k q2 rt⟩
theorem rising_pw : ∀ (l : List Str) (p : Str), risingS p l = true -> (p :: l).Pairwise fun a b => leS a b = true := by
 intro l
 induction l with
 | nil => exact fun _ _ => List.pairwise_singleton _ _
 | cons x r ih =>
  intro p h
  rw [risingS, Bool.and_eq_true] at h
  have h2 := ih x h.2
  have hpx : leS p x = true := by
   unfold leS
   rw [show decide (x.cps.toList < p.cps.toList) = Spec.ltCps x.cps.toList p.cps.toList from (ltCps_eq _ _).symm]
   exact h.1
  refine List.pairwise_cons.mpr ⟨fun y hy => ?_, h2⟩
  rcases List.mem_cons.mp hy with rfl | hy
  ·exact hpx
  ·exact le_trans' hpx ((List.pairwise_cons.mp h2).1 y hy)
theorem sortedS_pw {l : List Str} (h : sortedS l = true) : l.Pairwise fun a b => leS a b = true := by
 cases l with
 | nil => exact .nil
 | cons x r => exact rising_pw r x h
theorem Rels.idx (is : List Nat) {vs : List V} {vs' : List Value} (r : Rels w κ vs vs') : (∀ i ∈ is, i < vs.length) -> Rels w κ (is.map fun i => vs.getD i .none) (is.map fun i => vs'.getD i .none) := by
 induction is with
 | nil => exact fun _ => rfl
 | cons i is ih =>
  intro h
  obtain ⟨v', e, rv⟩ := r.get (List.getElem?_eq_getElem (h i (.head _)))
  refine ⟨vs'.getD i .none, _, rfl, ?_, ih fun j hj => h j (.tail _ hj)⟩
  show Rel w κ (vs.getD i .none) (vs'.getD i .none)
  rw [List.getD_eq_getElem?_getD, List.getD_eq_getElem?_getD, e, List.getElem?_eq_getElem (h i (.head _))]
  exact rv
theorem strs_rel : ∀ {ss : List Str} {os : List Value}, (∀ s ∈ ss, isQ s = false) -> StrsAre os ss -> Rels w κ (ss.map .str) os := by
 intro ss
 induction ss with
 | nil => intro os _ a; cases a; exact rfl
 | cons z ss ih =>
  intro os hq a
  cases a with
  | cons _ _ a => exact ⟨_, _, rfl, ⟨_, rfl, fun q => by rw [hq _ (.head _)] at q; cases q⟩, ih (fun s hs => hq s (.tail _ hs)) a⟩
theorem sorted_st {h₀ : Heap} {vs out : List Value} (S : St w h₀ s.heap l) (hl : out.length <= 100000) : St w h₀ (sortedAll s.heap vs out.toArray) ((s.heap.objs.size + 1, .list out) :: l) := by
 obtain ⟨e, he⟩ := sortedAll_at s.heap vs out.toArray
 refine S.step (ow := []) (ow' := [(s.heap.objs.size + 1, .list out)]) (fun b o _ q => sortedAll_old q) (fun p hp => ?_) (List.nodup_cons.mpr ⟨List.not_mem_nil, List.nodup_nil⟩) fun b hb => ?_
 ·rw [List.mem_singleton.mp hp]; exact ⟨_, he, hl, e, rfl⟩
 ·rw [List.mem_singleton.mp hb]; exact .inr (Nat.le_succ _)
theorem sortIdx_len (b : Nat -> Nat -> Bool) : ∀ xs acc : List Nat, (sortIdx b xs acc).length = xs.length + acc.length /\ ∀ i ∈ sortIdx b xs acc, i ∈ xs ∨ i ∈ acc := by
 have ins : ∀ (x : Nat) (acc : List Nat), (insIdx b x acc).Perm (x :: acc) := by
  intro x acc
  induction acc with
  | nil => exact .refl _
  | cons y ys ih =>
   rw [insIdx_c]
   split
   ·exact .refl _
   ·exact (ih.cons y).trans (.swap ..)
 have key : ∀ xs acc : List Nat, (sortIdx b xs acc).Perm (xs ++ acc) := by
  intro xs
  induction xs with
  | nil => exact fun _ => .refl _
  | cons x xs ih => exact fun acc => (ih _).trans (((ins x acc).append_left xs).trans List.perm_middle)
 exact fun xs acc => ⟨(key xs acc).length_eq.trans List.length_append, fun i hi => List.mem_append.mp ((key xs acc).mem_iff.mp hi)⟩
theorem sorted_tel (OK : Ok (n + 1) A) (r : Rels w κ args args') : TelT w base κ rest (Rel w) σ (biSorted args) (wpAny (model prg w) A (PySem.call (.builtin "sorted") args')) := by
 delta biSorted
 refine .one (W := fun as => wpAny (model prg w) A (PySem.call (.builtin "sorted") as)) r fun v v' rv => .listV rv fun xs y ys _ e f rr => ?_
 subst e
 cases hss : strsOf xs with
 | some ss =>
  refine .guard fun c => .vlist fun s E Q l D k => ?_
  obtain ⟨c1, c2⟩ := Bool.and_eq_true_iff.mp c
  have hlen := of_decide_eq_true c1
  have h1 := strsOf_rel hss rr
  refine sorted_strs ((f.mono D.st.keep).list) h1 (by rw [rr.len]; lia) fun out ss' a1 a2 a3 => ?_
  obtain rfl := sortS_of a2 (sortedS_pw a3)
  have hr : Rels w κ ((sortS ss).map .str) out.toList := strs_rel (fun s hs => by
   have := List.all_eq_true.mp c2 s ((List.mergeSort_perm ss leS).subset hs)
   rw [Bool.not_eq_true'] at this; exact this) a1
  refine k _ _ _ s.toks hr (sorted_st D.st ?_)
  have hlen' : (sortS ss).length = ss.length := (List.mergeSort_perm ss leS).length_eq
  rw [hr.len, List.length_map, hlen', <- strs_len h1, rr.len]
  exact Nat.le_trans hlen (by decide)
 | none =>
  delta rowsSort
  refine .lift fun rows hrows => .guard fun c => .vlist fun s E Q l D k => ?_
  obtain ⟨c1, c2⟩ := Bool.and_eq_true_iff.mp c
  have hk := of_decide_eq_true c1
  have hR := rowsOf_rel D.st.keep hrows rr
  have hl : ys.length = 6 := by rw [hR.len]; have := congrArg List.length hk; rw [List.length_map] at this; exact this
  obtain ⟨s1, s2⟩ := sortIdx_len (rowLt rows) [0, 1, 2, 3, 4, 5] []
  refine sorted_six ((f.mono D.st.keep).list) hR hk c2 (by have := OK.units; show A.units + 2 < 9900; lia) ?_
  refine k _ _ _ s.toks (Rels.idx _ rr fun i hi => ?_) (sorted_st D.st (by rw [List.length_map, s1]; decide))
  rw [<- rr.len, hl]
  exact (s2 i hi).elim ((by decide : ∀ i ∈ [0, 1, 2, 3, 4, 5], i < 6) i) fun h => nomatch h
end
end Mine
end
section
open PySem PySem.W PyProof.Rows PySem.Calls PySem.SeqAt
namespace Mine
noncomputable def fi161 : FnI := ((topS 16).bind (FnI.of false)).getD ⟨[], [], default, false⟩
theorem head_160 {K : Frag} {h : Heap} (X : K.In h) (F : Facts K) : CodeHd h 160 156 := by
 refine hd fun P0 q0 => ?_
 obtain ⟨o, e, c, vs, d, e1, e2, ⟨f, tf, e3⟩, ⟨a, b, e4⟩, ⟨b2, e5⟩, ⟨a2, b3, e6⟩⟩ := F.hc
 refine q0 ?_
 exact ⟨o, vs, f, tf, a, b, b2, a2, b3, X _ _ e, c, d, e1, e2, e3, e4, e5, e6, by decide⟩
theorem built_at {w : World} {h : Heap} {mg : Str -> Option Value} (T : Tp w h) (G : h.Ns mainGlobals mg) : h.BuiltinsAt mg 156 := by
 obtain ⟨o, e, c, d, p⟩ := T.bm
 obtain ⟨K, X, F⟩ := T.X
 exact ⟨4, o, mg_of X G F.nb, by decide, by decide, by decide, e, c, d, p⟩
noncomputable def nmE (e : Expr) (fr : Fr) : M V := liftO (nameE e) >>= fun x => evNm x fr
noncomputable def L0 : Lv := ⟨nmE, fun _ _ => fail, fun _ _ => fail, fun _ _ _ => fail⟩
theorem snd_L0 (n : Nat) : Snd L0 n where
 e := fun C σ => .lift fun x h => by
  obtain ⟨p, rfl⟩ := nameE_inv h
  exact evNm_tel C σ
 t := fun _ _ => .fail
 exs := fun _ _ _ _ _ => .fail
 call := fun _ _ _ _ _ => .fail
section
variable {w : World} {A : Around} {base n : Nat} {κ : Kw} {rest l : List (Addr × Sh)} {σ σ' : List O} {s : Shared} {E : Value -> Shared -> Prop} {fr fr' : Fr} {env : Env} {bs : List (Str × Value)} {p pos : Pos}
theorem Rels.of : ∀ {vs : List V} {ys : List Value}, ys.length = vs.length -> (∀ (j : Nat) v y, vs[j]? = some v -> ys[j]? = some y -> Rel w κ v y) -> Rels w κ vs ys := by
 intro vs
 induction vs with
 | nil => exact fun hl _ => List.eq_nil_of_length_eq_zero hl
 | cons v vs ih =>
  intro ys hl h
  cases ys with
  | nil => exact nomatch hl
  | cons y ys => exact ⟨y, ys, rfl, h 0 v y rfl rfl, ih (Nat.succ.inj hl) fun j a b ha hb => h (j + 1) a b ha hb⟩
theorem signs_rel {z : Str} (hq : (chars z).all (fun c => !isQ c) = true) {acc : Array Value} (h : ItemsOf (SignAt z) acc z.cps.size) : Rels w κ ((chars z).map .str) acc.toList := by
 refine Rels.of (by rw [List.length_map, Array.length_toList, h.1]; exact (List.length_map ..).symm) fun j v y hv hy => ?_
 obtain ⟨c, u, hc, rfl⟩ := h.2 j y (by rw [<- Array.getElem?_toList]; exact hy)
 have hch : (chars z)[j]? = some ⟨#[c]⟩ := by
  unfold chars
  rw [List.getElem?_map, Array.getElem?_toList, hc]; rfl
 rw [List.getElem?_map, hch] at hv
 cases hv
 refine ⟨u, rfl, fun q => ?_⟩
 have := List.all_eq_true.mp hq _ (List.mem_of_getElem? hch)
 rw [q] at this; cases this
noncomputable def signsV (vs : List V) : M V := do
 let v <- liftO (one vs)
 let z <- strV v
 guardM (decide (z.length <= lim) && (chars z).all fun c => !isQ c)
 let k <- alloc (.list ((chars z).map .str))
 pure (.ref k)
theorem signsV_tel {vs : List V} {vs' : List Value} (hh : A.handled = none) (r : Rels w κ vs vs') : TelT w base κ rest (Rel w) σ (signsV vs) (wpAny (model prg w) A (PySem.call (.type "list") vs')) := by
 delta signsV
 refine .one (W := fun as => wpAny (model prg w) A (PySem.call (.type "list") as)) r fun v v' rv => .str rv fun z t _ e _ => .guard fun c => .leaf fun a σ' e' hb s E Q S k => ?_
 cases e'
 subst e
 obtain ⟨c1, c2⟩ := Bool.and_eq_true_iff.mp c
 have hz : z.length <= 100000 := of_decide_eq_true c1
 refine call_list_str hh z t (fun h' tk acc c' hk' hD hacc => ?_) (sz hz)
 obtain ⟨l, D⟩ := S.led
 have S3 := D.st.step (ow := []) (h' := h') (ow' := [(s.heap.objs.size, .list acc.toList)]) (fun b o _ e => hk' b o e) (fun p hp => by
  rw [List.mem_singleton.mp hp]
  exact ⟨_, hD, by rw [Array.length_toList, hacc.1]; exact hz, c', by rw [Array.toArray_toList]⟩) (List.nodup_cons.mpr ⟨List.not_mem_nil, List.nodup_nil⟩) fun b hb => by rw [List.mem_singleton.mp hb]; exact .inr (Nat.le_refl _)
 exact k ⟨κ.h, κ.ρ ++ [s.heap.objs.size], κ.τ⟩ _ _ Kle.push ⟨s.heap.objs.size, by rw [<- S.len]; exact List.getElem?_concat_length, rfl⟩ (D.alloc h' s.heap.objs.size (.list ((chars z).map .str)) (.list acc.toList) ⟨_, rfl, signs_rel c2 hacc⟩ S3) (Pres.alloc _)
noncomputable def signsE (f : Expr) (as : List Expr) (fr : Fr) : M V := L0.ev f fr >>= fun fv => guardM (isCallee fv && isTy "list" fv) >>= fun _ => evs L0 as fr >>= fun vs => signsV vs
theorem signsE_tel (C : Ctx' w n A κ fr env bs rest) {f : Expr} {as : List Expr} (h : attr? f = none) : TelT w fr.base κ rest (Rel w) σ (signsE f as fr) (wpAny (model prg w) A (eval (.Call f as [] pos) env)) :=
 (st_callK (F := FT w rest (Rel w)) (g := fun fv => isCallee fv && isTy "list" fv) (k := fun _ vs => signsV vs) (W' := fun x Q _ s => Q x s) (snd_L0 n) C h (fun _ h => (Bool.and_eq_true_iff.mp h).1) fun k c r => by
  rw [isTy_con (Bool.and_eq_true_iff.mp c).2]
  exact (signsV_tel C.ok.hh r).toF).toT
theorem St.add {h₀ h : Heap} {a : Addr} {x : Sh} (S : St w h₀ h l) (e : Has w h a x) (hn : ∀ p ∈ l, p.1 ≠ a) (h0 : h₀.get? a = none) (h1 : a ≠ 1) : St w h₀ h ((a, x) :: l) := by
 refine ⟨S.keep, fun p hp => ?_, ?_, fun p hp => ?_, fun p hp => ?_, S.three⟩
 ·rcases List.mem_cons.mp hp with rfl | hp
  ·exact e
  ·exact S.own p hp
 ·rw [List.map_cons, List.nodup_cons]
  refine ⟨fun hm => ?_, S.nd⟩
  obtain ⟨p, hp, q⟩ := List.mem_map.mp hm
  exact hn p hp q
 ·rcases List.mem_cons.mp hp with rfl | hp
  ·exact h0
  ·exact S.new p hp
 ·rcases List.mem_cons.mp hp with rfl | hp
  ·exact h1
  ·exact S.pos p hp
theorem St.three_lt {h₀ h : Heap} (S : St w h₀ h l) : 3 < h.objs.size := by
 cases q : h₀.get? 3 with
 | none => exact absurd q S.three
 | some o => exact Heap.lt_size (S.keep _ _ q)
noncomputable abbrev strmObj (pa : Arguments) (b : List Stmt) (sc : Scope) (clos : List (Str × Addr)) (doc pm cv ctv : Value) (d : Option Addr) : Obj :=
 ⟨.type "function", d, .func (fnX (attS "stream") strmQual pa b sc clos .none .none doc pm none cv ctv), #[]⟩
theorem rep_any {a : Addr} {x : Sh} (x' : Sh) : ∀ {l : List (Addr × Sh)}, (a, x) ∈ l -> ∃ l', Rep a x x' l l'
 | (b, y) :: l, h => by
  rcases List.mem_cons.mp h with e | h
  ·cases e; exact ⟨_, .head⟩
  ·obtain ⟨l', r⟩ := rep_any x' h
   exact ⟨_, .tail r⟩
theorem St.freezeX {h₀ h : Heap} {l₁ : List (Addr × Sh)} {as : List Addr} (S : St w h₀ h (l₁ ++ l)) (e : l.map (·.1) = as) : Ext h₀ (hideAll h as) /\ St w (hideAll h as) h l /\ ∀ p ∈ l₁, Has w (hideAll h as) p.1 p.2 := by
 subst e
 refine ⟨fun b o e => ?_, ⟨fun b o e => of_hideAll _ e, fun p hp => S.own p (List.mem_append_right _ hp), ?_, fun p hp => hideAll_none _ (List.mem_map_of_mem hp), fun p hp => S.pos p (List.mem_append_right _ hp), ?_⟩, fun p hp => ?_⟩
 ·refine hideAll_get _ (S.keep b o e) fun hm => ?_
  obtain ⟨p, hp, q⟩ := List.mem_map.mp hm
  rw [<- q, S.new p (List.mem_append_right _ hp)] at e; cases e
 ·have := S.nd
  rw [List.map_append] at this
  exact (List.nodup_append.mp this).2.1
 ·cases q : h₀.get? 3 with
  | none => exact absurd q S.three
  | some o =>
   rw [hideAll_get _ (S.keep _ _ q)]
   ·simp
   ·intro hm
    obtain ⟨p, hp, e⟩ := List.mem_map.mp hm
    have := S.new p (List.mem_append_right _ hp)
    rw [e, q] at this; cases this
 ·obtain ⟨o, e, q⟩ := S.own p (List.mem_append_left _ hp)
  refine ⟨o, hideAll_get _ e fun hm => ?_, q⟩
  have := S.nd
  rw [List.map_append] at this
  exact (List.nodup_append.mp this).2.2 _ (List.mem_map_of_mem hp) _ hm rfl
theorem strm_make {env : Env} {h₀ : Heap} {ps : Array Value} {pa : Arguments} {b : List Stmt} {sc : Scope} {clos : List (Str × Addr)} (T : Tp w h₀) (S : St w h₀ s.heap l) (hm : (156, .exact (tabObj ps)) ∈ l) (ht : TriplesOk ps.toList)
  (hcase : codeAmong strmPos ps.toList = none ∨ ∃ cv, codeAmong strmPos ps.toList = some cv /\ h₀.CodeRec cv strmQual) (hcl : closureFor sc env = pure clos) (hge : env.globals = mainGlobals) (hcode : env.code = .ref 160) {Q : Value -> Shared -> Prop}
  (h : ∀ f cv doc pm ctv (ps' : Array Value) h₁ h' tk, Ext h₀ h₁ -> h₁.CodeRec cv strmQual -> TriplesOk ps'.toList -> codeAmong strmPos ps'.toList = some cv ->
   (∀ l', Rep 156 (.exact (tabObj ps)) (.exact (tabObj ps')) l l' -> St w h₁ h' ((f, .exact (strmObj pa b sc clos doc pm cv ctv none)) :: l')) -> Q (.ref f) { s with heap := h', toks := tk }) :
  wpAny (model prg w) A (makeFunction (attS "stream") strmQual pa (.stmts b) sc env [] [] [] strmPos strmPos.line) Q E s := by
 refine hd fun P0 q0 => ?_
 obtain ⟨mg, G⟩ := T.g
 have hP : s.heap.get? 156 = some (tabObj ps) := (S.has hm).get
 have G' := G.keeps S.keep
 have hb := built_at (T.mono S.keep) G'
 obtain ⟨K, X, F⟩ := T.X
 refine q0 ?_
 have hC := head_160 (X.keeps S.keep) F
 rcases hcase with hn | ⟨cv, hf, hrec⟩
 ·refine makeFunction_K hcl hge G' hcode hC hP ht hn (by decide) hb fun c' ctv doc h' tk hx hgec hlt hrec htb => ?_
  refine hd fun P0 q0 => ?_
  obtain ⟨c2, oc, vs, t, e2, hoc, hd, hv⟩ := id hrec
  cases e2
  have h0c : h₀.get? c' = none := fresh0' S.keep hgec
  have key : ∀ l', Rep 156 (.exact (tabObj ps)) (.exact (tabObj (ps ++ #[rawInt strmPos.line, rawInt strmPos.col, .ref c']))) l l' ->
    St w h₀ (h'.push (strmObj pa b sc clos doc ((mg "__name__").getD .none) (.ref c') ctv none)) ([(c', .exact oc)] ++ (h'.objs.size, .exact (strmObj pa b sc clos doc ((mg "__name__").getD .none) (.ref c') ctv none)) :: l') := fun l' rp => by
   have S1 := S.setX rp hx ⟨_, htb, rfl⟩
   have S2 : St w h₀ h' ((c', .exact oc) :: l') := S1.add ⟨_, hoc, rfl⟩ (fun p hp => by
    have : p.1 ∈ l'.map (·.1) := List.mem_map_of_mem hp
    rw [rp.addr] at this
    obtain ⟨p', hp', e⟩ := List.mem_map.mp this
    have := S.lt hp'
    rw [e] at this
    exact Nat.ne_of_lt (Nat.lt_of_lt_of_le this hgec)) h0c (fun q => by
    have := S.three_lt
    have hlt' := Nat.lt_of_lt_of_le this hgec
    rw [q] at hlt'
    exact absurd hlt' (by decide))
   have S3 := S2.push (x := .exact (strmObj pa b sc clos doc ((mg "__name__").getD .none) (.ref c') ctv none)) rfl rfl
   exact S3.perm (List.Perm.swap _ _ _)
  have fr := fun l' rp => St.freezeX (as := h'.objs.size :: l.map (·.1)) (key l' rp) (by rw [List.map_cons, rp.addr])
  obtain ⟨l0, rp0⟩ := rep_any (.exact (tabObj (ps ++ #[rawInt strmPos.line, rawInt strmPos.col, .ref c']))) hm
  obtain ⟨x₁, -, hh⟩ := fr l0 rp0
  refine q0 ?_
  have hcs := (hh _ (.head _)).get
  have hps : (ps ++ #[rawInt strmPos.line, rawInt strmPos.col, .ref c']).toList = ps.toList ++ [rawInt strmPos.line, rawInt strmPos.col, .ref c'] := by simp
  exact h _ (.ref c') _ _ ctv _ _ _ tk x₁ ⟨c', oc, vs, t, rfl, hcs, hd, hv⟩ (by rw [hps]; exact TriplesOk_snoc _ _ _ ps.toList ht) (by rw [hps]; exact codeAmong_snoc ps.toList ht hn) fun l' rp => (fr l' rp).2.1
 ·refine makeFunction_hit hcl hge G' hcode hC hP ht hf hb fun ctv doc h' tk hk hsz => ?_
  refine h _ cv doc ((mg "__name__").getD .none) ctv ps h₀ _ tk Ext.rfl hrec ht hf fun l' rp => ?_
  have S1 := (S.keeps hk).setX rp (fun b o _ e => e) ⟨_, hk _ _ hP, rfl⟩
  exact S1.push (x := .exact (strmObj pa b sc clos doc ((mg "__name__").getD .none) cv ctv none)) rfl rfl
theorem mkStrm_inv {args : List V} {r : V × List O} (h : mkStrm args σ = some r) : ∃ z tb, args = [.str z] /\ (decide (z.length <= lim) && (chars z).all fun c => !isQ c) = true /\ σ[0]? = some (.tab tb) /\
  r = (.strm σ.length, (((σ ++ [O.cell none]) ++ [O.list ((chars z).map .str)]).set σ.length (.cell (some (.ref (σ ++ [O.cell none]).length)))).set 0 (.tab true)) := by
 refine bindL h fun v0 e1 h => bindL h fun z e3 h => bindG h fun e5 h => bindA h fun h => bindA h fun h => bindP h fun h => bindK h fun o e13 h => bindG h fun e15 h => ?_
 obtain rfl := putR_inv h
 cases o with
 | tab tb =>
  refine ⟨z, tb, by rw [one_inv e1, str_inv e3], e5, ?_, rfl⟩
  rw [List.getElem?_set] at e13
  split at e13
  ·split at e13 <;> cases e13
  ·rename_i hne
   cases σ with
   | nil => exact absurd rfl hne
   | cons o σ => exact e13
 | _ => cases e15
theorem nameLk {h₀ : Heap} {M : Model} {x : Str} {v : Value} {Q : Value -> Shared -> Prop} (S : St w h₀ s.heap l) (hl : env.kindOf x = some .local) (hm : (env.locals, .ns bs) ∈ l) (hv : bs.lookup x = some v) (h : Q v s)
  (hk : env.scope.kind = .function) (hd : (x == ("__debug__" : Str)) = false) : wpAny M A (eval (.Name x pos) env) Q E s :=
 wpAny_Name (wpAny_loadName_local hk hl (S.has hm).ns hv h) hd
structure B161 (p1 p2 p3 p4 p5 p6 p7 p8 p9 p10 p11 : Pos) (b : List Stmt) (sc : Scope) (pa : Arguments) : Prop where
 body : fi161.body = [
  .Assign [.Name (attS "signs") p1] (.Call (.Name (attS "list") p2) [.Name (attS "text") p3] [] p4) p5,
  .FunctionDef (attS "stream") pa b [] none [] sc none (attS "stream") strmPos,
  .Assign [.Attribute (.Name (attS "stream") p6) (attS "read") p7] (.Name (attS "stream") p8) p9,
  .Return (some (.Name (attS "stream") p10)) p11]
 strm : strmFn = some ⟨[attS "size"], b, sc, false⟩
 df : pa.defaults = []
 kd : pa.kw_defaults = []
 ann : ∀ env, annTrees pa none env = []
 co : sc.isCoroutine = false
 ge : sc.isGenerator = false
 ki : sc.kind = .function
 clos : ∀ N loc b, takenC ⟨fi161.scope, [(attS "signs", N)], loc, b⟩ sc.names [] = some [(attS "signs", N)]
 bind : ∀ clos doc pm cv ctv a, bindArgs (fnX (attS "stream") strmQual pa b sc clos .none .none doc pm none cv ctv) ⟨[a], []⟩ = pure [(attS "size", a)]
theorem bind1 {f : FuncData} {x : Str} (h : ∀ a, bindArgs f ⟨[a], []⟩ = pure [(x, a)]) : ∀ args' : List Value, args'.length = 1 -> bindArgs f ⟨args', []⟩ = pure ([x].zip args')
 | [a], _ => h a
theorem body_161 {P : Prop} (h : ∀ {p1 p2 p3 p4 p5 p6 p7 p8 p9 p10 p11 b sc pa}, B161 p1 p2 p3 p4 p5 p6 p7 p8 p9 p10 p11 b sc pa -> P) : P :=
 h ⟨rfl, rfl, rfl, rfl, fun _ => rfl, rfl, rfl, rfl, fun _ _ _ => rfl, fun _ _ _ _ _ _ => rfl⟩
noncomputable def fr161 (N : Nat) (z : Str) : Fr := ⟨fi161.scope, [(attS "signs", N)], setL (attS "text") (.str z) (locals fi161.scope.names), N⟩
theorem signs_run {z : Str} {N : Nat} {p1 p2 p3 : Pos} (hc : (decide (z.length <= lim) && (chars z).all fun c => !isQ c) = true) (hN : σ.length = N + 1) (h0 : σ[N]? = some (.cell none)) :
  (signsE (.Name (attS "list") p2) [.Name (attS "text") p3] (fr161 N z) >>= fun v => asg L0 (.Name (attS "signs") p1) v (fr161 N z) >>= fun fr' => pure (Fl.next, fr')) σ = some ((.next, fr161 N z), (σ ++ [O.list ((chars z).map .str)]).set N (.cell (some (.ref σ.length)))) := by
 have h1 : signsE (.Name (attS "list") p2) [.Name (attS "text") p3] (fr161 N z) σ = some (.ref σ.length, σ ++ [.list ((chars z).map .str)]) := by
  show (guardM (decide (z.length <= lim) && (chars z).all fun c => !isQ c) >>= fun _ => alloc (.list ((chars z).map .str)) >>= fun k => pure (V.ref k)) σ = _
  rw [hc]; rfl
 show (signsE (.Name (attS "list") p2) [.Name (attS "text") p3] (fr161 N z) σ).bind _ = _
 rw [h1]
 have hg : (σ ++ [O.list ((chars z).map .str)])[N]? = some (.cell none) := by rw [List.getElem?_append_left (by lia)]; exact h0
 have hl : N < (σ ++ [O.list ((chars z).map .str)]).length := (List.getElem?_eq_some_iff.mp hg).1
 show (asgCell (attS "signs") (.ref σ.length) (fr161 N z) (σ ++ [O.list ((chars z).map .str)])).bind _ = _
 have h2 : asgCell (attS "signs") (.ref σ.length) (fr161 N z) (σ ++ [O.list ((chars z).map .str)]) = some (fr161 N z, (σ ++ [O.list ((chars z).map .str)]).set N (.cell (some (.ref σ.length)))) := by
  show (guardM (decide (N <= N)) >>= fun _ => look N >>= fun o => liftO (oCell o) >>= fun _ => putR N (.cell (some (.ref σ.length))) (fr161 N z)) _ = _
  rw [decide_eq_true (Nat.le_refl N)]
  show (((σ ++ [O.list ((chars z).map .str)])[N]?).map fun o => (o, σ ++ [O.list ((chars z).map .str)])).bind _ = _
  rw [hg]
  show (if N < (σ ++ [O.list ((chars z).map .str)]).length then _ else _) = _
  rw [if_pos hl]
 rw [h2]; rfl
end
section
variable {w : World} {A : Around} {base n : Nat} {κ : Kw} {rest l : List (Addr × Sh)} {σ σ' : List O} {s : Shared} {E : Value -> Shared -> Prop} {fr fr' : Fr} {env : Env} {bs : List (Str × Value)} {p pos : Pos} {args : List V} {args' : List Value}
variable {p1 p2 p3 p4 p5 p6 p7 p8 p9 p10 p11 : Pos} {b : List Stmt} {sc : Scope} {pa : Arguments} {z : Str}
theorem strm_core (B : B161 p1 p2 p3 p4 p5 p6 p7 p8 p9 p10 p11 b sc pa) (T : Tp w κ.h) (OK : Ok (n + 1) A) (r : Rels w κ args args') : TelT w base κ rest (Rel w) σ (mkStrm args) (wpAny (model prg w) A (PySem.call (.ref 161) args')) := fun v σ' hm hbl s E Q S hQ => by
 refine hd fun P0 q0 => ?_
 obtain ⟨z, tb, rfl, hc, h0, e⟩ := mkStrm_inv hm
 cases e
 obtain ⟨K, X, F⟩ := T.X
 refine q0 ?_
 have G := F.at (f := 161) (fi := fi161) rfl
 have hcd := F.c161
 refine wpAny_call (codeAny_call_function OK.room (S.keep _ _ (X _ _ G.ob)) rfl (by rw [G.scope]; exact G.co) (by rw [G.scope]; exact G.gen) G.body ((codeRec_of X G.code).keeps S.keep) ?_)
 rw [bindN G.bind _ (by rw [r.len]; rfl)]
 refine wpAny_pure ?_
 rw [G.scope, G.globals, G.builtins, G.closure]
 refine newEnv_tel (around := none) (base := σ.length) (cl := []) G.kind rfl (fun _ h => nomatch h) rfl r (fr161 σ.length z) (σ ++ [.cell none]) rfl (Nat.le_refl _) s _ _ S fun κ1 env' s1 k1 hF q1 => ?_
 refine hd fun P0 q0 => ?_
 obtain ⟨N, cs', rfl, bs, F1, S1, hb1⟩ := hF
 refine q0 ?_
 refine ⟨((T.nolimit).keeps k1.h).keeps S1.keep, codeAny_func ?_⟩
 rw [B.body]
 have hcode : (newEnv fi161.scope N mainGlobals cs' ((fdOf (obK K 161)).qualname ++ ".<locals>.") (some 161) (fdOf (obK K 161)).code none builtinsNs).code = .ref 160 := hcd.1
 have hqn : qualnameIn (newEnv fi161.scope N mainGlobals cs' ((fdOf (obK K 161)).qualname ++ ".<locals>.") (some 161) (fdOf (obK K 161)).code none builtinsNs) (attS "stream") (attS "stream") = strmQual := by
  show (if _ then _ else ((fdOf (obK K 161)).qualname ++ ".<locals>.") ++ attS "stream") = _
  rw [hcd.2]; rfl
 generalize newEnv fi161.scope N mainGlobals cs' ((fdOf (obK K 161)).qualname ++ ".<locals>.") (some 161) (fdOf (obK K 161)).code none builtinsNs = env at F1 S1 hcode hqn ⊢
 have C1 : CtxS w n (A.deeper env) κ1 (fr161 σ.length z) env bs rest := ⟨T.mono k1.h, OK.deeper, F1, .head _⟩
 refine wpAny_execs_cons (asg_end C1 (snd_L0 n) (signsE_tel C1 rfl) rfl rfl (no_swap rfl) _ _ (signs_run hc List.length_append List.getElem?_concat_length) (by rw [List.length_append]; exact Nat.le_succ _) s1 _ _ S1 fun κ2 fl' s2 k2 hF2 q2 => ?_)
 refine hd fun P0 q0 => ?_
 obtain ⟨bs2, hfl, F2, S2, e2⟩ := hF2
 have hfl : fl' = .next := hfl
 subst hfl
 have hlt : σ.length ≠ 0 := by
  have := (List.getElem?_eq_some_iff.mp h0).1
  lia
 obtain ⟨l2, a0, sh0, D2, ha0, ro0, mm0, upd⟩ := S2.hp.getG (k := 0) (o := .tab tb) (by
  rw [List.getElem?_set_ne hlt, List.getElem?_append_left (by rw [List.length_append]; exact Nat.succ_pos _), List.getElem?_append_left (Nat.pos_of_ne_zero hlt)]; exact h0)
 obtain ⟨h156, ps, rfl, htr, hcase⟩ := ro0
 rw [h156] at ha0; cases ha0
 obtain ⟨cl', ⟨ac, r0, rfl, hac, rfl⟩, hcl0⟩ := closure_tel F2 (B.clos σ.length _ _)
 refine q0 ?_
 refine wpAny_execs_cons (nestDef_K B.df B.kd (B.ann _) ?_)
 rw [hqn]
 refine wpUp (strm_make (T.mono (k1.trans k2).h) D2.st mm0 htr hcase hcl0 F2.globals hcode fun f cv doc pm ctv ps' h₁ h' tk x₁ hrec ht' hca hst htk => ?_)
 refine hd fun P0 q0 => ?_
 obtain ⟨l', rp, back⟩ := upd ⟨h₁, κ2.ρ, κ2.τ⟩ (.tab true) (.exact (tabObj ps')) (Kle.ext x₁) rfl ⟨h156, ps', rfl, ht', .inr ⟨cv, hca, hrec⟩⟩
 obtain ⟨l4, D4, S4⟩ := ((back h' [(f, .exact (strmObj pa b sc [(attS "signs", ac)] doc pm cv ctv none))] (hst l' rp)).rPm (List.Perm.swap _ _ _)).pop
 refine q0 ?_
 have hks : env.kindOf (attS "stream") = some .local := F2.kindOf _
 have hkk : env.scope.kind = .function := by rw [F2.scope]; exact F2.kind
 refine storeL (s := { s2 with heap := h', toks := tk }) S4 hks .head (fun h5 S5 => ?_) (fn_not_class F2)
 have nm : ∀ {s3 : Shared} {l3 : List (Addr × Sh)} {h3 : Heap} {Q : Value -> Shared -> Prop} {E pp}, St w h3 s3.heap ((env.locals, .ns ((attS "stream", .ref f) :: bs2)) :: l3) -> Q (.ref f) s3 -> wpAny (model prg w) (A.deeper env) (eval (.Name (attS "stream") pp) env) Q E s3 := fun S h =>
  nameLk S hks (.head _) (by rw [List.lookup_cons, beq_self_eq_true]) h hkk (by decide)
 refine wpAny_execs_cons (wpAny_Assign_stores (hs := rfl) (hw := rfl) (nm S5 ?_))
 rw [each_one rfl]
 show wpAny _ (A.deeper env) (assign (.Attribute (.Name (attS "stream") p6) (attS "read") p7) env (.ref f)) _ _ _
 rw [assign_Attribute]
 refine wpAny_bind (wpAny_holding (nm S5 (wpAny_bind (wpAny_standAt (wpAny_bind (wpAny_holding ?_))))))
 refine hd fun P0 q0 => ?_
 obtain ⟨l7, D7, S7⟩ := ((D4.put _ _ _ S5).rPm (List.Perm.swap _ _ _)).pop
 refine q0 ?_
 refine fn_setattr (s := { s2 with heap := h5, toks := tk + 1 }) S7 fun d h6 tk6 htk6 S8 => wpAny_release ?_
 refine hd fun P0 q0 => ?_
 obtain ⟨h₂, x₂, fz, S10⟩ := (D7.puts h6 [(d, .ns [(attS "read", .ref f)]), (f, .exact (strmObj pa b sc [(attS "signs", ac)] doc pm cv ctv (some d)))] S8).frzAll
 obtain ⟨l11, D11, S11⟩ := S10.pop
 refine q0 ?_
 refine wpAny_execs_cons (wpAny_Return_some (nm (s3 := { s2 with heap := h6, toks := tk6 }) S11 ?_))
 have kk : Kle κ ⟨h₂, κ2.ρ, κ2.τ⟩ := k1.trans (k2.trans ((Kle.ext x₁).trans (Kle.ext x₂)))
 refine hQ ⟨h₂, κ2.ρ, κ2.τ⟩ (.ref f) _ kk ⟨f, ac, hac, rfl, d, _, _, #[], (fz _ (.tail _ (.head _))).get, fz _ (.head _), B.strm, rfl, rfl, rfl, rfl, rfl, hrec.keeps x₂, B.co, B.ge, B.ki, bind1 (B.bind _ _ _ _ _)⟩ ⟨S10.rest_tail, ?_⟩ ?_
 ·exact Tk.same (S2.tk.le (by show s2.toks <= tk6; have : s2.toks <= tk := htk; have h2 : tk + 1 <= tk6 := htk6; lia)) rfl
 ·exact ((q1.trans q2).trans (Pres.set (k := 0) (o := .tab true) fun c _ h0 _ => h0)).le hbl
theorem strm_tel (T : Tp w κ.h) (OK : Ok (n + 1) A) (r : Rels w κ args args') : TelT w base κ rest (Rel w) σ (mkStrm args) (wpAny (model prg w) A (PySem.call (.ref 161) args')) :=
 body_161 fun B => strm_core B T OK r
end
section
variable {w : World} {A : Around} {base n : Nat} {κ : Kw} {rest : List (Addr × Sh)} {σ : List O} {L : Lv} {args : List V} {args' : List Value}
theorem callRef_tel (I : Snd L n) {a : Addr} (T : Tp w κ.h) (OK : Ok (n + 1) A) (r : Rels w κ args args') : TelT w base κ rest (Rel w) σ (callRef L base a args) (wpAny (model prg w) A (PySem.call (.ref a) args')) := by
 unfold callRef
 cases hi : initOf a with
 | some i => exact class_tel I T OK hi r
 | none =>
  refine .ite (fun e => ?_) fun _ => .lift fun fi hf => callFn_tel I T OK hf r σ
  subst e
  exact strm_tel T OK r
theorem callBi_tel {id : String} (OK : Ok (n + 1) A) (r : Rels w κ args args') : TelT w base κ rest (Rel w) σ (callBi id args) (wpAny (model prg w) A (PySem.call (.builtin id) args')) :=
 .ite (fun e => e ▸ len_tel r) fun _ => .ite (fun e => e ▸ sorted_tel OK r) fun _ => .ite (fun e => e ▸ sum_tel OK.hh r) fun _ => .ite (fun e => e ▸ isinst_tel r) fun _ => .ite (fun e => e ▸ iter_tel r) fun _ => .fail
theorem callTy_tel {T : String} (OK : Ok (n + 1) A) (r : Rels w κ args args') : TelT w base κ rest (Rel w) σ (callTy T args) (wpAny (model prg w) A (PySem.call (.type T) args')) :=
 .ite (fun e => e ▸ range_tel r) fun _ => .ite (fun e => e ▸ list_ty_tel OK.hh r) fun _ => .ite (fun e => e ▸ tuple_tel r) fun _ => .ite (fun e => e ▸ int_tel r) fun _ => .fail
theorem call_tel (I : Snd L n) {f : V} {f' : Value} (T : Tp w κ.h) (OK : Ok (n + 1) A) (rf : Rel w κ f f') (r : Rels w κ args args') : Tel w A base κ rest (Rel w) (callV L base f args) (PySem.call f' args') := fun σ => by
 cases f with
 | con c =>
  have rf : f' = c := rf
  subst rf
  cases f' with
  | ref a => exact callRef_tel I T OK r
  | builtin id => exact callBi_tel OK r
  | type T => exact callTy_tel OK r
  | _ => exact .fail
 | _ => exact .fail
theorem snd_lv (n : Nat) : Snd (lv n) n := by
 induction n with
 | zero => exact ⟨fun _ _ => .fail, fun _ _ => .fail, fun _ _ _ _ _ => .fail, fun _ _ _ _ _ => .fail⟩
 | succ n I => exact ⟨fun C => ev_tel I ⟨C.T, C.ok.le (Nat.le_succ n), C.F, C.mem⟩ C.ok, fun C => tr_tel I ⟨C.T, C.ok.le (Nat.le_succ n), C.F, C.mem⟩ C.ok, fun T OK F hb σ => exL_tel I OK _ ⟨T, OK.le (Nat.le_succ n), F, .head _⟩ hb, fun T OK rf r => call_tel I T OK rf r⟩
end
noncomputable def fiD (p : Addr × Option FnI) : FnI := p.2.getD ⟨[], [], default, false⟩
noncomputable def fdK (K : Frag) (p : Addr × Option FnI) : FuncData := fdOf (obK K p.1)
noncomputable abbrev Bd : Type := Value -> Value -> Value -> Value -> Value -> Sem (List (Str × Value))
noncomputable def fB (K : Frag) (p : Addr × Option FnI) : Bd := fun a b c d e => bindArgs (fdK K p) ⟨[a, b, c, d, e].take (fiD p).ps.length, []⟩
noncomputable def gB (p : Addr × Option FnI) : Bd := fun a b c d e => pure ((fiD p).ps.zip ([a, b, c, d, e].take (fiD p).ps.length))
noncomputable def fF (K : Frag) (p : Addr × Option FnI) := (List.lookup p.1 K, (fdK K p).body, (fdK K p).scope, (fdK K p).globals, (fdK K p).builtins, (fdK K p).closure, codeIn K (fdK K p).code (fdK K p).qualname, (fiD p).scope.isCoroutine, (fiD p).scope.isGenerator, (fiD p).scope.kind)
noncomputable def gF (K : Frag) (p : Addr × Option FnI) := (some { obK K p.1 with data := .func (fdK K p) }, FuncBody.stmts (fiD p).body, (fiD p).scope, mainGlobals, builtinsNs, ([] : List (Str × Addr)), true, false, false, ScopeKind.function)
theorem bind5 {P : List Value -> Prop} : ∀ {n : Nat}, n <= 5 -> (∀ a b c d e, P ([a, b, c, d, e].take n)) -> BindN n P
 | 0, _, h => h .none .none .none .none .none
 | 1, _, h => fun a => h a .none .none .none .none
 | 2, _, h => fun a b => h a b .none .none .none
 | 3, _, h => fun a b c => h a b c .none .none
 | 4, _, h => fun a b c d => h a b c d .none
 | 5, _, h => h
noncomputable def globB (K : Frag) (p : Str × Value) : Bool := (nsIn K mainGlobals p.1 == some (some p.2)) || ((nsIn K mainGlobals p.1 == some none) && ((bootBuiltins p.1 == some p.2) && p.1 != ("__name__" : Str)))
noncomputable def attB (K : Frag) (p : Addr × Str) : Bool := plainGet K p.1 p.2 && (hasDictIn K p.1 && ((findIn K (.ref p.1) p.2 == some none) && ((findIn K (.ref p.1) "__setattr__" == some (some (.builtin "object.__setattr__"))) && (plainOver K p.1 && (takerIn K p.1 p.2 == some none)))))
noncomputable def methB (K : Frag) (p : (Addr × Str) × Addr) : Bool := plainGet K p.1.1 p.1.2 && ((findIn K (.ref p.1.1) p.1.2 == some (some (.ref p.2))) && (isFn K (.ref p.2) && keepIn K (.ref p.2)))
noncomputable def clsB (K : Frag) (p : Addr × Addr) : Bool := makesIn K p.1 && ((findIn K (.ref p.1) "__init__" == some (some (.ref p.2))) && (typeIn K (.ref p.2) == some (.type "function")))
noncomputable def factB (K : Frag) : Bool := (fnTab.all fun p => decide ((fiD p).ps.length <= 5)) && (globs.all (globB K) && ((nsIn K mainGlobals "__builtins__" == some (some (.ref 4))) && (attList.all (attB K) && (methTab.all (methB K) && (initTab.all (clsB K) && (globs.all (fun p => keepB K p.2) && (nsIn K cStatics sharingNotToldKey == some none)))))))
theorem facts_of {K : Frag} (h1 : fnTab.map (fF K) = fnTab.map (gF K)) (h1b : fnTab.map (fB K) = fnTab.map gB) (h2 : factB K = true) (hc : ∃ o, List.lookup 160 K = some o /\ o.cls = .type "code" /\ ∃ vs, o.data = .fields vs /\ vs[11]? = some (.ref 156) /\ vs.getD 11 .none = .ref 156 /\ (∃ file tf, vs.getD 18 .none = .str file tf) /\ (∃ a b, vs.getD 7 .none = .int a b) /\ (∃ b, vs.getD 9 .none = .bool b) /\ (∃ a b, vs.getD 10 .none = .int a b))
  (c1 : (fdOf (obK K 161)).code = .ref 160 /\ (fdOf (obK K 161)).qualname = attS "_law_stream")
  (rc : plainGet K 101 "_read_char" = true /\ hasDictIn K 101 = true /\ findIn K (.ref 101) "_read_char" = some (some (.ref 84)) /\ typeIn K (.ref 84) = some (.type "function") /\ specialIn K (.ref 84) "__get__" = some (some (.builtin "function.__get__")) /\ takesIn K (.ref 84) = some false) : Facts K := by
 simp only [factB, Bool.and_eq_true, beq_iff_eq, List.all_eq_true] at h2
 obtain ⟨h0, hg, hb, ha, hm, hi, hk, hn⟩ := h2
 have h1 := List.map_inj_left.mp h1
 have h1b := List.map_inj_left.mp h1b
 refine ⟨fun p hp fi e => ?_, fun p hp => ?_, hb, fun p hp => ?_, fun p hp => ?_, fun p hp => ?_, List.all_eq_true.mpr hk, hc, c1, hn, rc⟩
 ·have hq := h1 p hp
  have hl := of_decide_eq_true (h0 p hp)
  obtain ⟨a, q⟩ := p
  cases e
  simp only [fF, gF, Prod.mk.injEq] at hq
  obtain ⟨e1, e2, e3, e4, e5, e6, e7, e8, e9, e10⟩ := hq
  exact ⟨e1, e2, e3, e4, e5, e6, e7, e8, e9, e10, bind5 hl fun a b c d e => congrFun (congrFun (congrFun (congrFun (congrFun (h1b _ hp) a) b) c) d) e⟩
 ·have h := hg p hp
  simp only [globB, Bool.or_eq_true, Bool.and_eq_true, beq_iff_eq, bne_iff_ne] at h
  exact h
 ·have h := ha p hp
  simp only [attB, Bool.and_eq_true, beq_iff_eq] at h
  obtain ⟨a1, a2, a3, a4, a5, a6⟩ := h
  exact ⟨a1, a2, a3, a4, a5, a6⟩
 ·have h := hm p hp
  simp only [methB, Bool.and_eq_true, beq_iff_eq] at h
  obtain ⟨a1, a2, a3, a4⟩ := h
  exact ⟨a1, a2, a3, a4⟩
 ·have h := hi p hp
  simp only [clsB, Bool.and_eq_true, beq_iff_eq] at h
  obtain ⟨a1, a2, a3⟩ := h
  exact ⟨a1, a2, a3⟩
end Mine
end
section
open PySem PySem.W PyProof.Rows
namespace Mine
theorem bits_abs {i : Int} {e : Nat} (h : Builtin.Int.intBits i <= e) : i.natAbs < 2 ^ e := by
 unfold Builtin.Int.intBits at h
 split at h
 ·rename_i q
  rw [eq_of_beq q]
  exact Nat.two_pow_pos _
 ·rename_i q
  have hi : i.natAbs ≠ 0 := fun e => q (by rw [Int.natAbs_eq_zero.mp e]; rfl)
  exact (Nat.log2_lt hi).mp (Nat.lt_of_succ_le h)
theorem in_of {K K' : Frag} {h : Heap} (X : K.In h) (e : (K'.map fun p => List.lookup p.1 K) = K'.map fun p => some p.2) : K'.In h := fun a o q => X a o (List.map_inj_left.mp e _ (mem_of_lookupK q))
noncomputable def noT (K : Frag) : Frag := K.filter fun p => noTabs [p]
theorem rel_ints {w : World} {κ : Kw} {h : Heap} {P : Params} : ∀ {is : List Int} {vs : List Value}, WellAll P h vs (PySem.W.ofPys (is.map PyData.int)) -> Rels w κ (is.map V.int) vs := by
 intro is
 induction is with
 | nil => intro vs x; cases x; rfl
 | cons i is ih =>
  intro vs x
  cases x with
  | cons a b =>
   cases a with
   | int _ t => exact ⟨_, _, rfl, ⟨t, rfl⟩, ih b⟩
theorem sim_start {w : World} {s : Shared} (hT : TabsAt [(160, 156)] s.heap) (hg : s.gens = #[]) (ht : 0 < s.toks) (h3 : ∃ o, (ghostOf s.heap [(160, 156)]).get? 3 = some o) :
  Sim w ⟨ghostOf s.heap [(160, 156)], [156], ⟨fun _ => Str.empty, s.os⟩⟩ s [.tab false] [] := by
 have h156 := (hT _ (.head _)).2
 have key : ∀ {P : Addr × Sh -> Prop}, P (156, .exact (tabObj #[])) -> ∀ p ∈ [156].zip [Sh.exact (tabObj #[])] ++ [], P p := fun h p hp => by
  rw [List.append_nil] at hp
  rw [List.mem_singleton.mp hp]; exact h
 exact ⟨⟨[.exact (tabObj #[])], rfl, .cons ⟨rfl, #[], rfl, trivial, .inl rfl⟩ .nil, fun b o e => of_hideAll _ e, key ⟨_, h156, rfl⟩, List.nodup_cons.mpr ⟨List.not_mem_nil, List.nodup_nil⟩, key (hideAll_none _ (.head _)), key (by decide), fun q => by
  obtain ⟨o, e⟩ := h3
  have q : (ghostOf s.heap [(160, 156)]).get? 3 = none := q
  rw [q] at e; cases e⟩, ⟨ht, fun _ _ => rfl⟩, hg, rfl⟩
noncomputable def fi213 : FnI := ((topS 26).bind (FnI.of false)).getD ⟨[], [], default, false⟩
theorem hlaw' {is : List Int} {r : Option (V × List O)} (h : law is = r) : callFn (lv 119) 0 fi213 [] [.list (is.map V.int)] [.tab false] = r :=
 (show callFn (lv 119) 0 fi213 [] [.list (is.map V.int)] [.tab false] = law is by kernel_rfl).trans h
end Mine
end
end
section
open PySem PySem.W PyProof.Rows
namespace Mine
theorem top.tw8025738503920905074 : True := trivial
theorem top.tw9272544492142499777 : True := trivial
theorem top.tw10079171474624433434 : True := trivial
theorem top.tw4134505453457115739 : True := trivial
theorem top.tw427420600052151026 : True := trivial
theorem top.tw634140439597932539 : True := trivial
theorem top.tw2813407560741378457 : True := trivial
theorem top.tw18289109515434150305 : True := trivial
theorem top.tw15286249088069653756 : True := trivial
theorem top.tw15874363893724204672 : True := trivial
theorem top.tw15095372191486117680 : True := trivial
theorem top.tw4058662728301269685 : True := trivial
theorem top.tw10657950659306570408 : True := trivial
theorem top.tw2029088862249889922 : True := trivial
theorem top.tw2220570432770164149 : True := trivial
theorem top.tw7671549972530922468 : True := trivial
theorem top.tw8968299171318014206 : True := trivial
theorem top.tw8148004212497801138 : True := trivial
theorem top.tw2377541652452675900 : True := trivial
theorem top.tw8874702517807110003 : True := trivial
theorem top.tw9590735534726013551 : True := trivial
theorem top.tw2544169868661182894 : True := trivial
theorem top.tw3254097082911018636 : True := trivial
theorem top.tw6124053682588569230 : True := trivial
theorem top.tw4331257952254489624 : True := trivial
theorem top.tw7235229648537691245 : True := trivial
theorem top.tw7681529838311687354 : True := trivial
theorem top.tw16054190913257422852 : True := trivial
theorem top.tw15245507539482535896 : True := trivial
theorem top.tw14636874881575330237 : True := trivial
theorem top.tw13799840507378627052 : True := trivial
theorem top.tw3002795768020413707 : True := trivial
theorem top.tw10797620697341660853 : True := trivial
theorem top.tw10574840078274726829 : True := trivial
theorem top.tw14747140909534839006 : True := trivial
theorem top.tw16597617366809209970 : True := trivial
theorem top.tw3712731000106771831 : True := trivial
theorem top.tw8281120267493503204 : True := trivial
theorem top.tw5702910450625016506 : True := trivial
theorem top.tw84136930442132756 : True := trivial
theorem top.tw9919435345466941130 : True := trivial
theorem top.tw1112988674713690477 : True := trivial
theorem top.tw14537839394382259888 : True := trivial
theorem top.tw17103585973383926153 : True := trivial
theorem top.tw13223034962123697568 : True := trivial
theorem top.tw16453443671601555132 : True := trivial
theorem top.tw594810645892935528 : True := trivial
theorem top.tw3418922952876315692 : True := trivial
theorem top.tw16719718919923625709 : True := trivial
theorem top.tw10001883323181062329 : True := trivial
theorem top.tw681777741448182936 : True := trivial
theorem top.tw16878204669230926818 : True := trivial
theorem top.tw13968125046926948103 : True := trivial
theorem top.tw104434173382791472 : True := trivial
theorem top.tw4916261283513009128 : True := trivial
theorem top.tw9962679162995550433 : True := trivial
theorem top.tw13994475860397038760 : True := trivial
theorem top.tw9152664641465651067 : True := trivial
theorem top.tw12209182163369298222 : True := trivial
theorem top.tw4699463449715708850 : True := trivial
theorem top.tw3796891538752321733 : True := trivial
theorem top.tw17100286645176912914 : True := trivial
theorem top.tw12764151676501842404 : True := trivial
theorem top.tw6430265229019958763 : True := trivial
theorem top.tw2506305409684761478 : True := trivial
theorem top.tw11199710921928265848 : True := trivial
theorem top.tw8043003576528973991 : True := trivial
theorem top.tw1601500998369573665 : True := trivial
theorem top.tw928082602103803716 : True := trivial
theorem top.tw9233715247699887402 : True := trivial
theorem top.tw14453841093610474573 : True := trivial
theorem top.tw18367679650794681301 : True := trivial
theorem top.tw4835499133494076262 : True := trivial
theorem top.tw2722852734226103192 : True := trivial
theorem top.tw10694878333477680388 : True := trivial
theorem top.tw13012589842206080548 : True := trivial
theorem top.tw7160873610591055699 : True := trivial
theorem top.tw16257124105764404587 : True := trivial
theorem top.tw11760055953109336660 : True := trivial
theorem top.tw5245862010334584759 : True := trivial
theorem top.tw17342085116792181814 : True := trivial
theorem top.tw2405475915293451298 : True := trivial
theorem top.tw17030962893124633753 : True := trivial
theorem top.tw1971433849790844608 : True := trivial
theorem top.tw17836180711203090203 : True := trivial
theorem top.tw9843447840031818808 : True := trivial
theorem top.tw8265311939077410998 : True := trivial
theorem top.tw17022078359063049780 : True := trivial
theorem top.tw10562855833978642645 : True := trivial
theorem top.tw2683898200743741643 : True := trivial
theorem top.tw1843344800811705456 : True := trivial
theorem top.tw13134186033006778460 : True := trivial
theorem top.tw3739144386018749749 : True := trivial
theorem top.tw14657780768301432306 : True := trivial
theorem top.tw2267912224990424062 : True := trivial
theorem top.tw13710211086531791108 : True := trivial
theorem top.tw1294077662247117797 : True := trivial
theorem top.tw16315627841946644802 : True := trivial
theorem top.tw14369005063860984104 : True := trivial
theorem top.tw3767615275625035234 : True := trivial
theorem top.tw2312856594315299383 : True := trivial
theorem top.tw6973401727384321114 : True := trivial
theorem top.tw7847352863974893604 : True := trivial
theorem top.tw3378803678994701225 : True := trivial
theorem top.tw7325726471975496349 : True := trivial
theorem top.tw4840481374290595910 : True := trivial
theorem top.tw13307591127769906961 : True := trivial
theorem top.tw17089494485692210459 : True := trivial
theorem top.tw15958100200138848244 : True := trivial
theorem top.tw17781115878593249900 : True := trivial
theorem top.tw12545222027267286695 : True := trivial
theorem top.tw6487610083215253720 : True := trivial
theorem top.tw7386116660499605909 : True := trivial
theorem top.tw11240886729373846589 : True := trivial
theorem top.tw6674990990233134667 : True := trivial
theorem top.tw9166809390415177425 : True := trivial
theorem top.tw2417791160451022400 : True := trivial
theorem top.tw3217022616335106338 : True := trivial
theorem top.tw14615657086365298920 : True := trivial
theorem top.tw8369368087495890639 : True := trivial
theorem top.tw5938664839603501006 : True := trivial
theorem top.tw7381879191629600215 : True := trivial
theorem top.tw9589608677651300831 : True := trivial
theorem top.tw2727672472851901052 : True := trivial
theorem top.tw9178861053002065721 : True := trivial
theorem top.tw13290321428070320777 : True := trivial
theorem top.tw3696473221133414273 : True := trivial
theorem top.tw1123975283337734383 : True := trivial
theorem top.tw3995942328266245912 : True := trivial
theorem top.tw18177719399980262173 : True := trivial
theorem top.tw2758071753971750899 : True := trivial
theorem top.tw1124271682379634556 : True := trivial
theorem top.tw4796303294375832693 : True := trivial
theorem top.tw9165953624949470791 : True := trivial
theorem top.tw4177254973167742082 : True := trivial
theorem top.tw17542608870123051758 : True := trivial
theorem top.tw9442318146202087700 : True := trivial
theorem top.tw14145802354927516647 : True := trivial
theorem top.tw9227057690007400460 : True := trivial
theorem top.tw1988063486488863061 : True := trivial
theorem top.tw10187724287525710026 : True := trivial
theorem top.tw17346259052997144950 : True := trivial
theorem top.tw10399464001100048223 : True := trivial
theorem top.tw6265701101103706036 : True := trivial
theorem top.tw3871027444623705763 : True := trivial
theorem top.tw3315250197877816394 : True := trivial
theorem top.tw5398424786039705171 : True := trivial
theorem top.tw11994683656316670133 : True := trivial
theorem top.tw17953984050398360512 : True := trivial
theorem top.tw11582926029173025856 : True := trivial
theorem top.tw11334203419191126389 : True := trivial
theorem top.tw3976154599441133093 : True := trivial
theorem top.tw9366391650621772374 : True := trivial
theorem top.tw1754339480302792767 : True := trivial
theorem top.tw15349318334595610263 : True := trivial
theorem top.tw13706816188851595723 : True := trivial
theorem top.tw6196800358849779857 : True := trivial
theorem top.tw16004416686337608138 : True := trivial
theorem top.tw3669314199184481253 : True := trivial
theorem top.tw4555866861457887817 : True := trivial
theorem top.tw297971269722091814 : True := trivial
theorem top.tw3140898538269762758 : True := trivial
theorem top.tw15254643099363442306 : True := trivial
theorem top.tw1321871150748368714 : True := trivial
theorem top.tw15451780782824253742 : True := trivial
theorem top.tw6448430607982512563 : True := trivial
theorem top.tw1291508964198565346 : True := trivial
theorem top.tw3484022092364678248 : True := trivial
theorem top.tw11542710104232473196 : True := trivial
theorem top.tw6292954644110606532 : True := trivial
theorem top.tw1792577199215160802 : True := trivial
theorem top.tw8560541052185303311 : True := trivial
theorem top.tw5507162329139097715 : True := trivial
theorem top.tw6746510453823603384 : True := trivial
theorem top.tw10194810499950245846 : True := trivial
theorem top.tw13001836021917841797 : True := trivial
theorem top.tw4392038535549328194 : True := trivial
theorem top.tw7313339093194340965 : True := trivial
theorem top.tw17795014544551873601 : True := trivial
theorem top.tw9195894827357321740 : True := trivial
theorem top.tw3195522803047326042 : True := trivial
theorem top.tw10774637447528242797 : True := trivial
theorem top.tw1016984595167383106 : True := trivial
theorem top.tw2907113945770861938 : True := trivial
theorem top.tw7204493036743257322 : True := trivial
theorem top.tw8311017846404947139 : True := trivial
theorem top.tw1108800333578037850 : True := trivial
theorem top.tw10801874191123338550 : True := trivial
theorem top.tw2878843996050045342 : True := trivial
theorem top.tw12958664272152378060 : True := trivial
theorem top.tw4547018644641229820 : True := trivial
theorem top.tw3261557481417251176 : True := trivial
set_option maxHeartbeats 8000000
set_option pp.deepTerms false
set_option pp.maxSteps 3000
local macro_rules | `(tactic| k_head) => `(tactic| z_head)
set_option Elab.async true in
theorem top : PySem.Challenge.rw_jc0010_01.Holds := by
 w_on; o_law; k_head; (case hw => w_witness2)
 intro w s₀ s₁ mg mb G Y fa o pm cd doc dV kV ho hd hcd hD hmg hg args vals as L hpre hlay hrd hwl hlo
 have f := (fun e => X.z_facts e Y) (fun P => by kernel_rfl)
 obtain ⟨ZA, ZI, ZN, ZT⟩ := f
 have KX := InK.keeps w s₀.heap s₁.heap ZI L.keeps
 have h156 : s₁.heap.get? 156 = some (tabObj #[]) := KX 156 _ (by kernel_rfl)
 clear ZA ZI Y
 have KX' : (noT (top.heap_1_236 w.params)).In s₁.heap := in_of KX (by kernel_rfl)
 clear KX
 have FK : Facts (noT (top.heap_1_236 w.params)) := facts_of (by kernel_rfl) (by kernel_rfl) (by kernel_rfl) ⟨_, rfl, rfl, _, rfl, rfl, rfl, ⟨_, _, rfl⟩, ⟨_, _, rfl⟩, ⟨_, rfl⟩, ⟨_, _, rfl⟩⟩ ⟨by kernel_rfl, by kernel_rfl⟩ ⟨by kernel_rfl, by kernel_rfl, by kernel_rfl, by kernel_rfl, by kernel_rfl, by kernel_rfl⟩
 refine Ground.open G ?_
 intro T B D TE TW
 wrow_args hpre hlay hrd hwl hlo
 have htk := X.script_toks L ZT
 first | refine callC_kw (enter_call ?_) | refine enter_call ?_
 clear hd hD hcd L
 rename_i is hs hlay0 hL hr1 hl2 as1 as2 a vs as3 hLi ra w1 r0 hI hr ht0 ht1
 have hT9 : TabsAt [(160, 156)] s₁.heap := fun q hq => by
  rcases List.mem_cons.mp hq with rfl | hq
  ·exact ⟨head_160 KX' FK, h156⟩
  ·cases hq
 refine kn_post hT9 (fun _ _ => rfl) ?_
 have X' := ghost_K hT9 KX' (by kernel_rfl)
 have T' := ghost_top hT9 T
 have hfa : fa = 213 := by
  have e := mg_of X' T'.g (n := Str.ofString "law") (v := .ref 213) (by rfl)
  have h2 : mg (Str.ofString "law") = some (.ref fa) := hmg
  rw [e] at h2
  cases h2
  rfl
 subst hfa
 have Tp0 : Tp w (ghostOf s₁.heap [(160, 156)]) := by
  refine ⟨⟨_, X', FK⟩, ⟨_, T'.g⟩, ⟨_, T'.b, T'.builtins⟩, T'.nolimit, ?_⟩
  obtain ⟨bm, ob, b1, b2, b3, b4⟩ := T'.bmain
  have e := mg_of X' T'.g (n := Str.ofString "__builtins__") (v := .ref 4) (by rfl)
  rw [b1] at e
  cases e
  exact ⟨ob, b3, b4⟩
 have S := sim_start (w := w) hT9 hg (Nat.lt_of_lt_of_le (by decide) htk) ⟨_, X' 3 _ (by rfl)⟩
 have hlaw := plain is (by have := ht0; omega) fun i hi => bits_abs (e := 1048576) (PyData.bits_item_of_ints hL hi)
 have hrel : Rels w ⟨ghostOf s₁.heap [(160, 156)], [156], ⟨fun _ => Str.empty, s₁.os⟩⟩ [.list (is.map V.int)] [.ref a] := by
  cases w1 with
  | list e1 e2 =>
   exact ⟨_, _, rfl, ⟨a, _, rfl, ⟨_, ghost_get hT9 e1 nofun, by rw [Rels.len (rel_ints (w := w) (κ := ⟨ghostOf s₁.heap [(160, 156)], [156], ⟨fun _ => Str.empty, s₁.os⟩⟩) e2), List.length_map]; have := ht0; omega, ⟨0, rfl⟩⟩, rel_ints e2⟩, rfl⟩
 refine callFn_codeF (n := 119) (L := lv 119) (base := 0) (fi := fi213) (snd_lv 119) Tp0 ?_ ?_ rfl hrel _ _ (hlaw' hlaw) (Nat.zero_le _) _ _ S ?_
 ·decide
 ·exact fun env => ⟨rfl, (by decide : callerA.depth + 1 + 4 * 119 < 1000), (by decide : callerA.units + 3 + 40 * 119 < 9900)⟩
 ·intro κ' b s' k r S' p
  have r : b = .bool true := r
  subst r
  refine ⟨⟨.inl ⟨.bool true, .bool true, [], rfl, fun _ => rfl, .bool true, ?_, fun _ => ⟨List.nodup_nil, nofun⟩⟩, fun b o e => S'.keep _ _ (k.h _ _ e), S'.tk.2.2.trans k.os, S'.tk.2.1⟩, ?_, trivial⟩
  ·exact postW_of (r := PySem.Challenge.rw_jc0010_01.row.toRowW) (by rfl) (X := true) (by show WTm.value _ (.eq .res (.lit (.bool true))) _ = _; simp [WTm.value]; simp [PySem.W.same]) rfl
  ·obtain ⟨l, D⟩ := S'.led
   obtain ⟨a0, sh0, h0, ro, hm, -⟩ := D.get 0 _ rfl
   obtain ⟨h1, ps, rfl, -⟩ := ro
   rw [h1] at h0; cases h0
   exact ⟨ps, (D.st.has hm).get⟩
end Mine
end
theorem PySem.Challenge.cw_jc0010_01_holds : PySem.Challenge.rw_jc0010_01.Holds :=
 Mine.top
