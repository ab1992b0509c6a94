import PyProof.Rows.All
import PyProof.Lay0
import PyProof.SliceList
import PyProof.CompFree
import PyProof.P3Statements
import PyProof.StrBlockL
import PyProof.WalksMore
import PyProof.ZipIter
import OpenK.KDescr
import Open.Row
import KE.KNest
import KE.KLam
import KE.KNestM
import KE.KSuperObj
import Wide.FinOn
import OpenK.AllK
import Wide.All
import Lean
import PySem.Challenge.RW_ph0119_02
set_option Elab.async false
set_option maxRecDepth 100000
set_option linter.all false
set_option genInjectivity false
set_option genSizeOf false
set_option genSizeOfSpec false
namespace Mine
open PySem

inductive Keys where
  | ki (l : List Int)
  | ks (l : List Str)
  deriving Inhabited

/-- the functions of the start-up that are called -/
inductive Bi where
  | len | range | list | str | int | sum | divmod | sorted | zip | iter
  deriving DecidableEq

inductive AV where
  | none
  | bool (b : Bool)
  | int (i : Int)
  | str (s : Str)
  | list (xs : List AV)
  | tuple (xs : List AV)
  | dict (ks : Keys) (vs : List AV)
  | range (a b : Int)
  | loc (l : Nat)
  | stream (l : Nat)
  | glob (n : Str)
  | bi (n : Bi)
  | opq (a : Nat)
  deriving Inhabited

inductive AObj where
  | list (xs : List AV)
  | dict (ks : Keys) (vs : List AV)
  | lexer (lineno : Int) (left : Nat) (push : List AV)
  | tab (fresh : Bool)
  deriving Inhabited

structure Sto where
  get : Nat → Option AObj
  nx : Nat

noncomputable def Sto.upd (σ : Sto) (l : Nat) (o : AObj) : Sto := { σ with get := fun k => if k = l then some o else σ.get k }
noncomputable def Sto.new (σ : Sto) (o : AObj) : Sto := { get := fun k => if k = σ.nx then some o else σ.get k, nx := σ.nx + 1 }
noncomputable def Sto.forget (σ : Sto) (l : Nat) : Sto := { σ with get := fun k => if k = l then none else σ.get k }
noncomputable def Sto.upto (σ : Sto) (n : Nat) : Sto := { σ with get := fun k => if k < n then σ.get k else none }

noncomputable abbrev Fm := Str → Option AV
noncomputable def Fm.set (m : Fm) (x : Str) (v : AV) : Fm := fun y => if y = x then some v else m y

noncomputable abbrev Fns := Str → List AV → Sto → Option (AV × Sto)

inductive Fl where
  | next | brk | cont
  | ret (v : AV)
  deriving Inhabited

/-- a run ends in a value that is so -/
noncomputable def Sat {α : Type} (x : Option α) (P : α → Prop) : Prop := match x with
  | some a => P a
  | none => False

section
variable {α : Type}
noncomputable def onInt (v : AV) (f : Int → Option α) : Option α := match v with
  | .int i => f i
  | _ => none
noncomputable def onStr (v : AV) (f : Str → Option α) : Option α := match v with
  | .str i => f i
  | _ => none
noncomputable def onVal (v : AV) (f : List AV → Option α) : Option α := match v with
  | .list i => f i
  | _ => none
noncomputable def onTup (v : AV) (f : List AV → Option α) : Option α := match v with
  | .tuple i => f i
  | _ => none
noncomputable def onLoc (v : AV) (f : Nat → Option α) : Option α := match v with
  | .loc i => f i
  | _ => none
noncomputable def on0 (l : List AV) (f : Option α) : Option α := match l with
  | [] => f
  | _ => none
noncomputable def on1 (l : List AV) (f : AV → Option α) : Option α := match l with
  | [a] => f a
  | _ => none
noncomputable def on2 (l : List AV) (f : AV → AV → Option α) : Option α := match l with
  | [a, b] => f a b
  | _ => none
noncomputable def onL (σ : Nat → Option AObj) (l : Nat) (f : List AV → Option α) : Option α := match σ l with
  | some (.list xs) => f xs
  | _ => none
noncomputable def onD (σ : Nat → Option AObj) (l : Nat) (f : Keys → List AV → Option α) : Option α := match σ l with
  | some (.dict ks vs) => f ks vs
  | _ => none
noncomputable def onX (σ : Nat → Option AObj) (l : Nat) (f : Int → Nat → List AV → Option α) : Option α := match σ l with
  | some (.lexer ln lf ts) => f ln lf ts
  | _ => none
end

structure Cfg where
  glob : Str → Option AV
  mu : Pos → Bool
  fz : Pos → List Str
  sk : Pos → Bool
  fuel : Nat
  sets : Bool

noncomputable def look (c : Cfg) (sc : Scope) (m : Fm) (x : Str) : Option AV :=
  if x = "__debug__" ∨ x = "__classdict__" then none else
  match sc.names.lookup x with
  | some .local | some .cell | some .free => m x
  | some .globalImplicit => c.glob x
  | _ => none

/-- the items of a sequence, as they stand -/
noncomputable def items? (σ : Sto) : AV → Option (List AV)
  | .list xs => some xs
  | .tuple xs => some xs
  | .loc l => match σ.get l with
    | some (.list xs) => some xs
    | _ => none
  | .str s => some (s.cps.toList.map fun c => .str ⟨#[c]⟩)
  | .range a b => some ((List.range (b - a).toNat).map fun (i : Nat) => .int (a + i))
  | _ => none

/-- a list's items -/
noncomputable def lst? (σ : Sto) : AV → Option (List AV)
  | .list xs => some xs
  | .loc l => match σ.get l with
    | some (.list xs) => some xs
    | _ => none
  | _ => none

noncomputable def dct? (σ : Sto) : AV → Option (Keys × List AV)
  | .dict ks vs => some (ks, vs)
  | .loc l => match σ.get l with
    | some (.dict ks vs) => some (ks, vs)
    | _ => none
  | _ => none

noncomputable def mkL (c : Cfg) (p : Pos) (xs : List AV) (σ : Sto) : AV × Sto :=
  if c.mu p then (.loc σ.nx, σ.new (.list xs)) else (.list xs, σ)

/-- a datum to compare: at most so deep -/
noncomputable def toPy0 (v : AV) : Option PyData := match v with
  | .none => some .none
  | .bool b => some (.bool b)
  | .int i => some (.int i)
  | .str s => if PyData.strOk s then some (.str s) else none
  | _ => none
noncomputable def mapO {α β : Type} (f : α → Option β) : List α → Option (List β)
  | [] => some []
  | x :: xs => (f x).bind fun d => (mapO f xs).bind fun ds => some (d :: ds)
noncomputable def toPy : Nat → AV → Option PyData
  | 0, v => toPy0 v
  | k + 1, v => match v with
    | .list xs => (mapO (toPy k) xs).bind fun ds => some (.list ds)
    | .tuple xs => (mapO (toPy k) xs).bind fun ds => some (.tuple ds)
    | v => toPy0 v
noncomputable def toPys (k : Nat) : List AV → Option (List PyData) := mapO (toPy k)

noncomputable def shallow (σ : Sto) (v : AV) : AV := match v with
  | .loc l => match σ.get l with
    | some (.list xs) => .list xs
    | _ => v
  | _ => v

noncomputable def eqG (σ : Sto) (v w : AV) : Option Bool := (toPy 8 (shallow σ v)).bind fun a => (toPy 8 (shallow σ w)).bind fun b => some (PyData.eqv a b)
noncomputable def eqA (σ : Sto) (v w : AV) : Option Bool := match v with
  | .str a => (match w with
    | .str b => some (a == b)
    | _ => eqG σ v w)
  | _ => eqG σ v w

noncomputable def memA (σ : Sto) (v w : AV) : Option Bool :=
  (lst? σ w).bind fun xs => (toPys 7 xs).bind fun ds => (toPy 8 (shallow σ v)).bind fun d => some (ds.any fun y => PyData.eqv y d)

noncomputable def lk {K α : Type} [DecidableEq K] (k : K) : List K → List α → Option α
  | x :: xs, v :: vs => if x = k then some v else lk k xs vs
  | _, _ => none

noncomputable def repl {K α : Type} [DecidableEq K] (k : K) (v : α) : List K → List α → List α
  | x :: xs, w :: vs => (if x = k then v else w) :: repl k v xs vs
  | _, vs => vs

noncomputable def findKey (k : AV) (ks : Keys) (vs : List AV) : Option (Option AV) :=
  match ks with
  | .ki l => onInt k fun i => some (lk i l vs)
  | .ks l => onStr k fun i => some (lk i l vs)

noncomputable def setKey (k v : AV) (ks : Keys) (vs : List AV) : Option (Keys × List AV) :=
  match ks with
  | .ki l => onInt k fun i => if l.length < 2 ^ 20 then some (if i ∈ l then (.ki l, repl i v l vs) else (.ki (l ++ [i]), vs ++ [v])) else none
  | .ks l => onStr k fun i => if l.length < 2 ^ 20 then some (if i ∈ l then (.ks l, repl i v l vs) else (.ks (l ++ [i]), vs ++ [v])) else none

/-- one sign in a text -/
noncomputable def subStr (x y : Str) : Option Bool := match x.cps.toList with
  | [c] => some (y.cps.toList.contains c)
  | _ => none

noncomputable def isA (v : AV) : Option Bool := match v with
  | .none => some true
  | .str _ => some false
  | _ => none
noncomputable def inA (σ : Sto) (v w : AV) : Option Bool := match w with
  | .str y => onStr v fun x => subStr x y
  | _ => memA σ v w
noncomputable def cmpA (σ : Sto) (op : CmpOp) (v w : AV) : Option Bool :=
  match op with
  | .Eq => eqA σ v w
  | .NotEq => (eqA σ v w).bind fun b => some !b
  | .Lt => onInt v fun a => onInt w fun b => some (decide (a < b))
  | .Gt => onInt v fun a => onInt w fun b => some (decide (b < a))
  | .GtE => onInt v fun a => onInt w fun b => some (decide (b ≤ a))
  | .Is => (match w with
    | .none => isA v
    | _ => none)
  | .In => inA σ v w
  | .NotIn => (inA σ v w).bind fun b => some !b
  | _ => none

noncomputable def idx (n : Nat) (i : Int) : Option Nat := seqIndex? i n

noncomputable def addL (c : Cfg) (p : Pos) (v w : AV) (σ : Sto) : Option (AV × Sto) := (lst? σ v).bind fun xs => (lst? σ w).bind fun ys => if xs.length + ys.length ≤ 2 ^ 20 then some (mkL c p (xs ++ ys) σ) else none
noncomputable def addA (c : Cfg) (p : Pos) (v w : AV) (σ : Sto) : Option (AV × Sto) := match v with
  | .int a => onInt w fun b => some (.int (a + b), σ)
  | .str a => onStr w fun b => if a.length + b.length ≤ sizeLine then some (.str (a ++ b), σ) else none
  | v => addL c p v w σ
noncomputable def mulV (c : Cfg) (p : Pos) (v w : AV) (σ : Sto) : Option (AV × Sto) := onVal v fun xs => onInt w fun b => if b = 2 ∧ xs.length ≤ 100 then some (mkL c p (xs ++ xs) σ) else none
noncomputable def mulA (c : Cfg) (p : Pos) (v w : AV) (σ : Sto) : Option (AV × Sto) := match v with
  | .int a => onInt w fun b => if a.natAbs < 2 ^ 31 ∧ b.natAbs < 2 ^ 31 then some (.int (a * b), σ) else none
  | v => mulV c p v w σ
noncomputable def binA (c : Cfg) (p : Pos) (op : Operator) (v w : AV) (σ : Sto) : Option (AV × Sto) :=
  match op with
  | .Add => addA c p v w σ
  | .Sub => onInt v fun a => onInt w fun b => some (.int (a - b), σ)
  | .Mult => mulA c p v w σ
  | .FloorDiv => onInt v fun a => onInt w fun b => if 0 < b ∧ b < 2 ^ 30 then some (.int (a.fdiv b), σ) else none
  | .Mod => onInt v fun a => onInt w fun b => if 0 < b then some (.int (a.fmod b), σ) else none
  | .Pow => onInt v fun a => onInt w fun b => if a = 10 ∧ b = 6 then some (.int 1000000, σ) else none
  | _ => none

noncomputable def truthL (σ : Sto) (v : AV) : Option Bool := (lst? σ v).bind fun xs => some !xs.isEmpty
noncomputable def truthA (σ : Sto) : AV → Option Bool
  | .none => some false
  | .bool b => some b
  | .int i => some (i != 0)
  | v => truthL σ v

/-- a cut -/
noncomputable def cutL {α : Type} (xs : List α) (lo hi : Option Int) : List α :=
  (sliceRange (sliceBounds lo hi none xs.length).1 (sliceBounds lo hi none xs.length).2.1 1).filterMap (xs.toArray[·]?)
noncomputable def cutS (s : Str) (lo hi : Option Int) : Str :=
  if (Builtin.Str.strSliceIndices lo hi 1 s.length).length == s.length then s else ⟨((Builtin.Str.strSliceIndices lo hi 1 s.length).filterMap (s.cps[·]?)).toArray⟩

noncomputable def optI : Option AV → Option (Option Int)
  | none => some none
  | some a => onInt a fun i => some (some i)

noncomputable def joinA : List AV → Option (List Nat)
  | [] => some []
  | x :: xs => onStr x fun s => (joinA xs).bind fun r => some (s.cps.toList ++ r)

noncomputable def digits? (s : Str) : Bool := s.length != 0 && s.cps.toList.all fun c => 48 ≤ c && c ≤ 57
noncomputable def intOf (s : Str) : Int := ((s.cps.toList.foldl (fun acc c => acc * 10 + (c - 48)) 0 : Nat) : Int)

noncomputable def lenL (σ : Sto) (v : AV) : Option (AV × Sto) := (lst? σ v).bind fun xs => some (.int xs.length, σ)
noncomputable def lenA (σ : Sto) (v : AV) : Option (AV × Sto) := match v with
  | .str s => if s.length < 2 ^ 40 then some (.int s.length, σ) else none
  | v => lenL σ v
noncomputable def rangeA (args : List AV) (σ : Sto) : Option (AV × Sto) := match args with
  | [v] => onInt v fun b => if -(2 ^ 40) < b ∧ b < 2 ^ 40 then some (.range 0 b, σ) else none
  | args => on2 args fun v w => onInt v fun a => onInt w fun b => if 0 ≤ a ∧ a < 2 ^ 40 ∧ -(2 ^ 40) < b ∧ b < 2 ^ 40 then some (.range a b, σ) else none
noncomputable def listS (c : Cfg) (p : Pos) (v : AV) (σ : Sto) : Option (AV × Sto) := onStr v fun s => if s.length ≤ 2 ^ 20 then some (mkL c p (s.cps.toList.map fun c => .str ⟨#[c]⟩) σ) else none
noncomputable def listA (c : Cfg) (p : Pos) (v : AV) (σ : Sto) : Option (AV × Sto) := match v with
  | .range a b => if 0 ≤ a ∧ b ≤ 2 ^ 20 then some (mkL c p ((List.range (b - a).toNat).map fun (i : Nat) => .int (a + i)) σ) else none
  | v => listS c p v σ
noncomputable def callB (c : Cfg) (p : Pos) (n : Bi) (args : List AV) (σ : Sto) : Option (AV × Sto) := match n with
  | .len => on1 args fun v => lenA σ v
  | .range => rangeA args σ
  | .list => on1 args fun v => listA c p v σ
  | .str => on1 args fun v => onInt v fun i => if 0 ≤ i ∧ i < 10 ^ 9 then some (.str (Str.ofString (toString i)), σ) else none
  | .int => on1 args fun v => onStr v fun s => if digits? s ∧ s.length < 100 then some (.int (intOf s), σ) else none
  | _ => none

/-- a method of a value -/
inductive Mth where
  | join | split | count | get | append | pop
  | lex (n : Str)

noncomputable def strM (n : Str) : Option Mth :=
  if n = "join" then some .join else if n = "split" then some .split else if n = "count" then some .count else
  none
noncomputable def objM (n : Str) (o : AObj) : Option Mth := match o with
  | .list _ => if n = "append" then some .append else if n = "pop" then some .pop else none
  | .dict .. => if n = "get" then some .get else none
  | .lexer .. => if n = "get_token" ∨ n = "push_token" ∨ n = "_read_char" then some (.lex n) else none
  | _ => none
noncomputable def resM (σ : Sto) (v : AV) (n : Str) : Option Mth :=
  match v with
  | .str _ => strM n
  | .dict .. => if n = "get" then some .get else none
  | .loc l => (σ.get l).bind (objM n)
  | _ => none

noncomputable def runM (c : Cfg) (p : Pos) (Φ : Fns) (m : Mth) (v : AV) (args : List AV) (σ : Sto) : Option (AV × Sto) :=
  match m with
  | .join => onStr v fun s => on1 args fun w => (lst? σ w).bind fun xs => (joinA xs).bind fun r => if s.length = 0 ∧ r.length ≤ 2 ^ 20 then some (.str ⟨r.toArray⟩, σ) else none
  | .split => onStr v fun s => on1 args fun w => onStr w fun t => if t.length ≠ 0 ∧ s.length ≤ 2 ^ 20 ∧ (Txt.split s t).length ≤ 2 ^ 20 then some (mkL c p ((Txt.split s t).map .str) σ) else none
  | .count => onStr v fun s => on1 args fun w => onStr w fun t => if t = ⟨#[10]⟩ then some (.int (s.cps.toList.count 10), σ) else none
  | .get => on2 args fun k d => (dct? σ v).bind fun kv => (findKey k kv.1 kv.2).bind fun r => some (r.getD d, σ)
  | .append => onLoc v fun l => on1 args fun w => onL σ.get l fun xs => if xs.length < 2 ^ 20 then some (.none, σ.upd l (.list (xs ++ [w]))) else none
  | .pop => onLoc v fun l => on1 args fun w => onInt w fun i => onL σ.get l fun xs => match xs with
    | x :: xs => if i = 0 then some (x, σ.upd l (.list xs)) else none
    | [] => none
  | .lex n => Φ n (v :: args) σ

noncomputable def attrA (σ : Sto) (v : AV) (n : Str) : Option AV := onLoc v fun l => match σ.get l with
  | some (.lexer i _ _) => if n = "lineno" then some (.int i) else if n = "whitespace" then some (.str ⟨#[10, 9, 13, 32]⟩) else none
  | _ => none

noncomputable def getS (s : Str) (i : AV) : Option AV := onInt i fun i => if s.length ≤ 100 then ((idx s.length i).bind fun k => s.cps[k]?).bind fun ch => some (.str ⟨#[ch]⟩) else none
noncomputable def getT (v i : AV) : Option AV := onInt i fun i => onTup v fun xs => (idx xs.length i).bind fun k => xs[k]?
noncomputable def getL (σ : Sto) (v i : AV) : Option AV := onInt i fun i => (lst? σ v).bind fun xs => (idx xs.length i).bind fun k => xs[k]?
noncomputable def getA (σ : Sto) (v i : AV) : Option AV := match v with
  | .str s => getS s i
  | .dict ks vs => (findKey i ks vs).bind id
  | .tuple xs => getT (.tuple xs) i
  | v => getL σ v i

noncomputable def sliceL (c : Cfg) (p : Pos) (σ : Sto) (v : AV) (lo hi : Option Int) : Option (AV × Sto) := (lst? σ v).bind fun xs => some (mkL c p (cutL xs lo hi) σ)
noncomputable def sliceA (c : Cfg) (p : Pos) (σ : Sto) (v : AV) (lo hi : Option Int) : Option (AV × Sto) :=
  match v with
  | .str s => if s.length ≤ 2 ^ 20 then some (.str (cutS s lo hi), σ) else none
  | v => sliceL c p σ v lo hi

/-- how a turn ends -/
noncomputable def endA {β : Type} (go : β → Option (Fl × β)) (r : Fl × β) : Option (Fl × β) := match r.1 with
  | .next | .cont => go r.2
  | .brk => some (.next, r.2)
  | .ret v => some (.ret v, r.2)
/-- a loop over a sequence that is read anew at each turn -/
noncomputable def iterA {β : Type} (rd : β → Option (List AV)) (step : AV → β → Option (Fl × β)) : Nat → Nat → β → Option (Fl × β)
  | 0, i, b => (rd b).bind fun xs => if xs.length ≤ i then some (.next, b) else none
  | n + 1, i, b => (rd b).bind fun xs => match xs[i]? with
    | none => some (.next, b)
    | some v => (step v b).bind (endA (iterA rd step n (i + 1)))

noncomputable def whileA {β : Type} (test : β → Option (Bool × β)) (body : β → Option (Fl × β)) : Nat → β → Option (Fl × β)
  | 0, _ => none
  | n + 1, b => (test b).bind fun t => if t.1 then (body t.2).bind (endA (whileA test body n)) else some (.next, t.2)

/-- a name of the frame's own is bound -/
noncomputable def setv (sc : Scope) (m : Fm) (x : Str) (v : AV) : Option Fm :=
  match sc.names.lookup x with
  | some .local | some .cell => some (m.set x v)
  | _ => none

noncomputable def asName (e : Expr) : Option Str := match e with
  | .Name x _ => some x
  | _ => none
noncomputable def bindName (sc : Scope) (t : Expr) (v : AV) (m : Fm) : Option Fm := (asName t).bind fun x => setv sc m x v
noncomputable def bindNames (sc : Scope) : List Expr → List AV → Fm → Option Fm
  | [], vs, m => on0 vs (some m)
  | t :: ts, vs, m => match vs with
    | [] => none
    | v :: vs => (bindName sc t v m).bind fun m => bindNames sc ts vs m

/-- what a target takes -/
noncomputable def bindT (sc : Scope) (t : Expr) (v : AV) (m : Fm) : Option Fm :=
  match t with
  | .Name x _ => setv sc m x v
  | .Tuple ts _ _ => onTup v fun vs => bindNames sc ts vs m
  | _ => none

noncomputable def okBase : Expr → Bool
  | .Name .. | .Constant .. | .Attribute .. => true
  | _ => false

/-- a comprehension's scope, seen from the scope around it -/
noncomputable def okScope (sc : Scope) : Bool := sc.kind == .function && sc.names.all fun x => sc.names.lookup x.1 == some x.2
noncomputable def okComp (sc csc : Scope) : Bool := okScope csc && csc.names.all fun x => x.2 != .free || (sc.names.lookup x.1 == some .cell || sc.names.lookup x.1 == some .free)

/-- the frame of a comprehension ahead of its first turn -/
noncomputable def inner (sc : Scope) (m : Fm) : Fm := fun x => match sc.names.lookup x with
  | some .free => m x
  | _ => none

structure Acc where
  ks : Keys
  vs : List AV

/-- a source of a comprehension: zip of two lists, or what is read anew -/
inductive Src where
  | pairs (xs : List AV)
  | val (v : AV)

noncomputable def Src.items (σ : Sto) : Src → Option (List AV)
  | .pairs xs => some xs
  | .val v => items? σ v

noncomputable def zipA : List AV → List AV → List AV
  | x :: xs, y :: ys => .tuple [x, y] :: zipA xs ys
  | _, _ => []

noncomputable def freezeA (x : Str) (m : Fm) (σ : Sto) : Option (Fm × Sto) := (m x).bind fun v => onLoc v fun l => onL σ.get l fun xs => some (m.set x (.list xs), σ.forget l)
noncomputable def freezes : List Str → Fm → Sto → Option (Fm × Sto)
  | [], m, σ => some (m, σ)
  | x :: xs, m, σ => (freezeA x m σ).bind fun r => freezes xs r.1 r.2

/-- a clause's names are not bound yet; pairs are taken apart at once -/
noncomputable def freshN (m : Fm) (t : Expr) : Bool := match asName t with
  | some x => (m x).isNone
  | none => false
noncomputable def freshT (m : Fm) (t : Expr) : Bool := match t with
  | .Name x p => freshN m (.Name x p)
  | .Tuple ts _ _ => ts.all (freshN m)
  | _ => false
noncomputable def Src.fits : Src → Expr → Bool
  | .pairs _, .Tuple .. => true
  | .pairs _, _ => false
  | .val _, _ => true

/-- one clause of a comprehension: the turns over its source -/
noncomputable def compA (sc : Scope) (src : Src) (t : Expr) (m : Fm) (ifs : Fm → Sto → Option (Bool × Sto)) (rest : Fm → Acc → Sto → Option (Acc × Sto)) (acc : Acc) (σ : Sto) : Option (Acc × Sto) :=
  if src.fits t = true ∧ freshT m t = true then (src.items σ).bind fun xs =>
    (iterA (fun b : Acc × Sto => src.items b.2) (fun v b =>
      (bindT sc t v m).bind fun m' => (ifs m' b.2).bind fun r =>
        if r.1 then (rest m' b.1 r.2).map fun b' => (.next, b') else some (.next, (b.1, r.2))) xs.length 0 (acc, σ)).map fun r => r.2
  else none

noncomputable def emitL (e : Fm → Sto → Option (AV × Sto)) (m : Fm) (acc : Acc) (σ : Sto) : Option (Acc × Sto) :=
  (e m σ).bind fun r => if acc.vs.length < 2 ^ 20 then some ({ acc with vs := acc.vs ++ [r.1] }, r.2) else none
noncomputable def emitD (k e : Fm → Sto → Option (AV × Sto)) (m : Fm) (acc : Acc) (σ : Sto) : Option (Acc × Sto) :=
  (k m σ).bind fun a => (e m a.2).bind fun b => (setKey a.1 b.1 acc.ks acc.vs).map fun r => (⟨r.1, r.2⟩, b.2)

/-- the source that a call of two arguments gives -/
noncomputable def srcCall (c : Cfg) (Φ : Fns) (p : Pos) (g x y : AV) (σ : Sto) : Option (Src × Sto) :=
  match g with
  | .bi n => if n = .zip then onVal x fun xs => onVal y fun ys => some (.pairs (zipA xs ys), σ)
    else (callB c p n [x, y] σ).bind fun r => some (.val r.1, r.2)
  | .glob n => (Φ n [x, y] σ).bind fun r => some (.val r.1, r.2)
  | _ => none

noncomputable def callV (c : Cfg) (Φ : Fns) (p : Pos) (g : AV) (as : List AV) (σ : Sto) : Option (AV × Sto) :=
  match g with
  | .bi n => callB c p n as σ
  | .glob n => Φ n as σ
  | _ => none

mutual
noncomputable def ev (c : Cfg) (Φ : Fns) : Expr → Scope → Fm → Sto → Option (AV × Sto)
  | .Constant k _ _, _, _, σ => match k with
    | .none => some (.none, σ)
    | .bool b => some (.bool b, σ)
    | .int i => some (.int i, σ)
    | .str s => some (.str s, σ)
    | _ => none
  | .Name x _, sc, m, σ => (look c sc m x).map (·, σ)
  | .BoolOp op es _, sc, m, σ => evB c Φ op es sc m σ
  | .BinOp l op r p, sc, m, σ =>
    (ev c Φ l sc m σ).bind fun a => (ev c Φ r sc m a.2).bind fun b => binA c p op a.1 b.1 b.2
  | .UnaryOp .USub e _, sc, m, σ =>
    (ev c Φ e sc m σ).bind fun a => onInt a.1 fun i => some (.int (-i), a.2)
  | .IfExp t a b _, sc, m, σ =>
    (tr c Φ t (ev c Φ t sc) sc m σ).bind fun x => if x.1 then ev c Φ a sc m x.2 else ev c Φ b sc m x.2
  | .Compare l [op] [r] _, sc, m, σ =>
    (ev c Φ l sc m σ).bind fun a => (ev c Φ r sc m a.2).bind fun b => (cmpA b.2 op a.1 b.1).map fun x => (.bool x, b.2)
  | .List es p, sc, m, σ => if es.length ≤ 1000 then (evs c Φ es sc m σ).map fun r => mkL c p r.1 r.2 else none
  | .Tuple es _ _, sc, m, σ => if es.length ≤ 1000 then (evs c Φ es sc m σ).map fun r => (.tuple r.1, r.2) else none
  | .Subscript e (.Slice lo hi none _) p, sc, m, σ =>
    (ev c Φ e sc m σ).bind fun v => (evO c Φ lo sc m v.2).bind fun lo => (evO c Φ hi sc m lo.2).bind fun hi =>
      (optI lo.1).bind fun l => (optI hi.1).bind fun h => sliceA c p hi.2 v.1 l h
  | .Subscript e i _, sc, m, σ =>
    (ev c Φ e sc m σ).bind fun v => (ev c Φ i sc m v.2).bind fun i => (getA i.2 v.1 i.1).map fun r => (r, i.2)
  | .Attribute e n _, sc, m, σ =>
    if okBase e then (ev c Φ e sc m σ).bind fun v => (attrA v.2 v.1 n).map fun r => (r, v.2) else none
  | .Call (.Attribute e n ap) args [] p, sc, m, σ =>
    if okBase e = true ∧ ap.endLine = p.line ∧ args.length < 30 then (ev c Φ e sc m σ).bind fun v => (resM v.2 v.1 n).bind fun mt => (evs c Φ args sc m v.2).bind fun as => runM c p Φ mt v.1 as.1 as.2 else none
  | .Call (.Name f _) args [] p, sc, m, σ =>
    (look c sc m f).bind fun g => (evs c Φ args sc m σ).bind fun as => callV c Φ p g as.1 as.2
  | .ListComp elt (⟨t, iter, ifs, a⟩ :: gs) csc p, sc, m, σ =>
    if a = 0 ∧ okComp sc csc = true then (evSrc c Φ iter (ev c Φ iter sc) sc m σ).bind fun src =>
      (compA csc src.1 t (inner csc m) (trs c Φ ifs csc) (gens c Φ (emitL (ev c Φ elt csc)) gs csc) ⟨.ki [], []⟩ src.2).map fun r => mkL c p r.1.vs r.2
    else none
  | .DictComp k e (⟨t, iter, ifs, a⟩ :: gs) csc p, sc, m, σ =>
    if a = 0 ∧ okComp sc csc = true then (evSrc c Φ iter (ev c Φ iter sc) sc m σ).bind fun src =>
      (compA csc src.1 t (inner csc m) (trs c Φ ifs csc) (gens c Φ (emitD (ev c Φ k csc) (ev c Φ e csc)) gs csc) ⟨if c.sk p then .ks [] else .ki [], []⟩ src.2).map fun r => (.dict r.1.ks r.1.vs, r.2)
    else none
  | _, _, _, _ => none

noncomputable def evB (c : Cfg) (Φ : Fns) (op : BoolOp) : List Expr → Scope → Fm → Sto → Option (AV × Sto)
  | [], _, _, _ => none
  | [e], sc, m, σ => ev c Φ e sc m σ
  | e :: es, sc, m, σ =>
    (ev c Φ e sc m σ).bind fun v => (truthA v.2 v.1).bind fun b => match op, b with
    | .And, false | .Or, true => some v
    | _, _ => evB c Φ op es sc m v.2

noncomputable def evs (c : Cfg) (Φ : Fns) : List Expr → Scope → Fm → Sto → Option (List AV × Sto)
  | [], _, _, σ => some ([], σ)
  | e :: es, sc, m, σ => (ev c Φ e sc m σ).bind fun v => (evs c Φ es sc m v.2).map fun vs => (v.1 :: vs.1, vs.2)

noncomputable def evO (c : Cfg) (Φ : Fns) : Option Expr → Scope → Fm → Sto → Option (Option AV × Sto)
  | none, _, _, σ => some (none, σ)
  | some e, sc, m, σ => (ev c Φ e sc m σ).map fun v => (some v.1, v.2)

noncomputable def evSrc (c : Cfg) (Φ : Fns) : Expr → (Fm → Sto → Option (AV × Sto)) → Scope → Fm → Sto → Option (Src × Sto)
  | .Call (.Name f _) [a, b] [] p, _, sc, m, σ =>
    (look c sc m f).bind fun g => (ev c Φ a sc m σ).bind fun x => (ev c Φ b sc m x.2).bind fun y => srcCall c Φ p g x.1 y.1 y.2
  | _, whole, _, m, σ => (whole m σ).map fun v => (.val v.1, v.2)

noncomputable def tr (c : Cfg) (Φ : Fns) : Expr → (Fm → Sto → Option (AV × Sto)) → Scope → Fm → Sto → Option (Bool × Sto)
  | .UnaryOp .Not e _, _, sc, m, σ => (tr c Φ e (ev c Φ e sc) sc m σ).map fun b => (!b.1, b.2)
  | .BoolOp op es _, _, sc, m, σ => trB c Φ op es sc m σ
  | .Compare l ops cs _, _, sc, m, σ => if ops.length = cs.length then (ev c Φ l sc m σ).bind fun a => trC c Φ ops cs a.1 sc m a.2 else none
  | .IfExp .., _, _, _, _ => none
  | _, whole, _, m, σ => (whole m σ).bind fun v => (truthA v.2 v.1).map fun b => (b, v.2)

noncomputable def trC (c : Cfg) (Φ : Fns) : List CmpOp → List Expr → AV → Scope → Fm → Sto → Option (Bool × Sto)
  | [op], [e], a, sc, m, σ => (ev c Φ e sc m σ).bind fun b => (cmpA b.2 op a b.1).map fun x => (x, b.2)
  | op :: ops, e :: es, a, sc, m, σ => (ev c Φ e sc m σ).bind fun b => (cmpA b.2 op a b.1).bind fun x =>
    if x then trC c Φ ops es b.1 sc m b.2 else some (false, b.2)
  | _, _, _, _, _, _ => none

noncomputable def trB (c : Cfg) (Φ : Fns) (op : BoolOp) : List Expr → Scope → Fm → Sto → Option (Bool × Sto)
  | [], _, _, σ => some (op == .And, σ)
  | e :: es, sc, m, σ => (tr c Φ e (ev c Φ e sc) sc m σ).bind fun b => match op, b.1 with
    | .And, false => some (false, b.2)
    | .Or, true => some (true, b.2)
    | _, _ => trB c Φ op es sc m b.2

noncomputable def trs (c : Cfg) (Φ : Fns) : List Expr → Scope → Fm → Sto → Option (Bool × Sto)
  | [], _, _, σ => some (true, σ)
  | e :: es, sc, m, σ => (tr c Φ e (ev c Φ e sc) sc m σ).bind fun b => if b.1 then trs c Φ es sc m b.2 else some (false, b.2)

noncomputable def gens (c : Cfg) (Φ : Fns) (K : Fm → Acc → Sto → Option (Acc × Sto)) : List Comprehension → Scope → Fm → Acc → Sto → Option (Acc × Sto)
  | [], _, m, acc, σ => K m acc σ
  | ⟨t, iter, ifs, a⟩ :: gs, sc, m, acc, σ =>
    if a = 0 then (ev c Φ iter sc m σ).bind fun v => compA sc (.val v.1) t m (trs c Φ ifs sc) (gens c Φ K gs sc) acc v.2 else none
end

noncomputable def isComp : Expr → Bool
  | .ListComp .. | .SetComp .. | .DictComp .. => true
  | _ => false
/-- the order of the stores is known -/
noncomputable def okStores : Expr → Expr → Bool
  | .Tuple .., .Tuple vs _ _ => !vs.all (constantsAlone 8)
  | _, _ => true

/-- += in place -/
noncomputable def incB (σ : Sto) (v w : AV) : Option (AV × Sto) := match v with
  | .int a => onInt w fun b => some (.int (a + b), σ)
  | .str a => onStr w fun b => if a.length + b.length ≤ sizeLine then some (.str (a ++ b), σ) else none
  | v => onLoc v fun l => onL σ.get l fun xs => (lst? σ w).bind fun ys => if xs.length + ys.length ≤ 2 ^ 20 then some (.loc l, σ.upd l (.list (xs ++ ys))) else none
noncomputable def incA (σ : Sto) (op : Operator) (v w : AV) : Option (AV × Sto) := match op with
  | .Add => incB σ v w
  | _ => none

mutual
noncomputable def ex (c : Cfg) (Φ : Fns) : Stmt → Scope → Fm → Sto → Option (Fl × Fm × Sto)
  | .Expr e _, sc, m, σ => if isComp e = false then (ev c Φ e sc m σ).map fun r => (.next, m, r.2) else none
  | .Break _, _, m, σ => some (.brk, m, σ)
  | .Continue _, _, m, σ => some (.cont, m, σ)
  | .Return (some e) _, sc, m, σ => (ev c Φ e sc m σ).map fun r => (.ret r.1, m, r.2)
  | .Assign [t] e _, sc, m, σ => if okStores t e = true then (ev c Φ e sc m σ).bind fun v => (bindT sc t v.1 m).map fun m => (.next, m, v.2) else none
  | .AugAssign (.Name x _) op e _, sc, m, σ =>
    (look c sc m x).bind fun old => (ev c Φ e sc m σ).bind fun v => (incA v.2 op old v.1).bind fun r => (setv sc m x r.1).map fun m => (.next, m, r.2)
  | .If t a b _, sc, m, σ => (tr c Φ t (ev c Φ t sc) sc m σ).bind fun x => if x.1 then exs c Φ a sc m x.2 else exs c Φ b sc m x.2
  | .While t b [] _, sc, m, σ =>
    whileA (fun s : Fm × Sto => (tr c Φ t (ev c Φ t sc) sc s.1 s.2).map fun r => (r.1, s.1, r.2)) (fun s => exs c Φ b sc s.1 s.2) c.fuel (m, σ)
  | .For t e b [] _, sc, m, σ => (ev c Φ e sc m σ).bind fun v => (items? v.2 v.1).bind fun xs =>
    iterA (fun s : Fm × Sto => items? s.2 v.1) (fun w s => (bindT sc t w s.1).bind fun m => exs c Φ b sc m s.2) xs.length 0 (m, v.2)
  | _, _, _, _ => none

noncomputable def exs (c : Cfg) (Φ : Fns) : List Stmt → Scope → Fm → Sto → Option (Fl × Fm × Sto)
  | [], _, m, σ => some (.next, m, σ)
  | s :: ss, sc, m, σ => (freezes (c.fz s.pos) m σ).bind fun r => (ex c Φ s sc r.1 r.2).bind fun r => match r.1 with
    | .next => exs c Φ ss sc r.2.1 r.2.2
    | f => some (f, r.2)
end

structure Def where
  params : List Str
  body : List Stmt
  scope : Scope

noncomputable def retA (n : Nat) (r : Fl × Fm × Sto) : Option (AV × Sto) := match r.1 with
  | .ret v => some (v, r.2.2.upto n)
  | .next => some (.none, r.2.2.upto n)
  | _ => none
noncomputable def Def.call (d : Def) (c : Cfg) (Φ : Fns) (args : List AV) (σ : Sto) : Option (AV × Sto) :=
  if d.params.length = args.length then (exs c Φ d.body d.scope (fun x => (d.params.zip args).lookup x) σ).bind (retA σ.nx) else none

/-- the reading of one token off a text: what it gives, what is left, the line ends met -/
noncomputable def nlN (c n : Nat) : Nat := if c = 10 then n + 1 else n
noncomputable def wsB (c : Nat) : Bool := c == 10 || c == 9 || c == 13 || c == 32
noncomputable def qtB (c : Nat) : Bool := c == 34
noncomputable def scan (stop : Nat → Bool) : List Nat → List Nat → Nat → List Nat × List Nat × Nat
  | tok, [], n => (tok, [], n)
  | tok, c :: cs, n => if c = 92 then (match cs with
      | [] => (tok, [], n)
      | d :: cs => scan stop (tok ++ [d]) cs (nlN d n))
    else if stop c = true then (tok, cs, nlN c n) else scan stop (tok ++ [c]) cs (nlN c n)
noncomputable def esc (cs : List Nat) (n : Nat) : List Nat × List Nat × Nat := match cs with
  | [] => ([], [], n)
  | d :: cs => scan wsB [d] cs (nlN d n)
noncomputable def token : List Nat → Nat → List Nat × List Nat × Nat
  | [], n => ([], [], n)
  | c :: cs, n => if wsB c = true then token cs (nlN c n) else if c = 34 then scan qtB [] cs n else if c = 92 then esc cs n else scan wsB [c] cs n

noncomputable def signs? : List AV → Option (List Nat)
  | [] => some []
  | x :: xs => onStr x fun s => match s.cps.toList with
    | [c] => if c < 0x110000 then (signs? xs).map (c :: ·) else none
    | _ => none

noncomputable def getX (σ : Sto) (l : Nat) (ln : Int) (lf : Nat) (ts : List AV) : Option (AV × Sto) := match ts with
  | t :: ts => some (t, σ.upd l (.lexer ln lf ts))
  | [] => onL σ.get lf fun xs => (signs? xs).bind fun cs => if cs.length < 2 ^ 20 then some (.str ⟨(token cs 0).1.toArray⟩, (σ.upd lf (.list ((token cs 0).2.1.map fun c => .str ⟨#[c]⟩))).upd l (.lexer (ln + (token cs 0).2.2) lf [])) else none
noncomputable def primGet (args : List AV) (σ : Sto) : Option (AV × Sto) := on1 args fun v => onLoc v fun l => onX σ.get l fun ln lf ts => getX σ l ln lf ts
/-- one sign off the text -/
noncomputable def readX (σ : Sto) (l : Nat) (ln : Int) (lf : Nat) (ts xs : List AV) : Option (AV × Sto) := match xs with
  | [] => some (.str ⟨#[]⟩, σ)
  | x :: xs => onStr x fun s => if (toPys 7 (x :: xs)).isSome then some (.str s, (σ.upd lf (.list xs)).upd l (.lexer (if s = ⟨#[10]⟩ then ln + 1 else ln) lf ts)) else none
noncomputable def primRead (args : List AV) (σ : Sto) : Option (AV × Sto) := on1 args fun v => onLoc v fun l => onX σ.get l fun ln lf ts => onL σ.get lf fun xs => readX σ l ln lf ts xs
noncomputable def primPush (args : List AV) (σ : Sto) : Option (AV × Sto) := on2 args fun v t => onLoc v fun l => onX σ.get l fun ln lf ts => if ts.length < 2 ^ 20 then some (.none, σ.upd l (.lexer ln lf (ts ++ [t]))) else none
noncomputable def onTab (σ : Sto) (f : Option (AV × Sto)) : Option (AV × Sto) := match σ.get 0 with
  | some (.tab true) => f
  | _ => none
noncomputable def primStream (args : List AV) (σ : Sto) : Option (AV × Sto) := on1 args fun v => onLoc v fun l => onTab σ (if l < σ.nx ∧ l ≠ 0 then some (.stream l, σ.upd 0 (.tab false)) else none)
noncomputable def onStream (v : AV) (f : Nat → Option (AV × Sto)) : Option (AV × Sto) := match v with
  | .stream l => f l
  | _ => none
noncomputable def primLex (args : List AV) (σ : Sto) : Option (AV × Sto) := on1 args fun v => onStream v fun l => some (.loc σ.nx, σ.new (.lexer 1 l []))

/-- the text's functions: depth by depth -/
noncomputable def fns (c : Cfg) (defs : Str → Option Def) : Nat → Fns
  | 0, _, _, _ => none
  | n + 1, f, args, σ =>
    if f = "get_token" then primGet args σ
    else if f = "push_token" then primPush args σ
    else if f = "_read_char" then primRead args σ
    else if f = "_law_stream" then primStream args σ
    else if f = "_netrclex" then primLex args σ
    else (defs f).bind fun d => d.call c (fns c defs n) args σ

end Mine
namespace Mine
open PySem

set_option genInjectivity true in
inductive Col where
  | fz
  | ob (l : Nat)
  | fr (L : Addr)
  | tmp

noncomputable def Col.isOb : Col → Bool
  | .ob _ => true
  | _ => false

/-- what is fixed throughout a call -/
structure Tp where
  prog : Program
  w : World
  h₀ : Heap
  fnV : Str → Option Value
  C : Addr
  tabA : Addr
  StreamObjs : List (Addr × Obj) → Addr → Addr → Prop

theorem none_some {α : Type} {o : Option α} {a : α} {P : Prop} (h : o = none) (e : o = some a) : P := by rw [h] at e; cases e
/-- a state, its places' colours, where its locations stand -/
structure St where
  s : Shared
  κ : Addr → Col
  γ : Nat → Addr
  n : Nat
noncomputable abbrev St.h (x : St) : Heap := x.s.heap
/-- another heap, other tokens -/
noncomputable abbrev St.to (x : St) (h : Heap) (tk : Nat) : St := ⟨{ x.s with heap := h, toks := tk }, x.κ, x.γ, x.n⟩
noncomputable abbrev St.re (x : St) (h : Heap) (tk : Nat) (κ : Addr → Col) : St := ⟨{ x.s with heap := h, toks := tk }, κ, x.γ, x.n⟩
noncomputable def upg (γ : Nat → Addr) (n : Nat) (a : Addr) : Nat → Addr := fun l => if l = n then a else γ l
noncomputable abbrev St.add (x : St) (h : Heap) (tk : Nat) (κ : Addr → Col) (a : Addr) : St := ⟨{ x.s with heap := h, toks := tk }, κ, upg x.γ x.n a, x.n + 1⟩

noncomputable def lobj (vs : List Value) (ep : Nat) : Obj := { cls := .type "list", data := .seq vs.toArray ep }
noncomputable def tobj (vs : List Value) (ep : Nat) : Obj := { cls := .type "tuple", data := .seq vs.toArray ep }

noncomputable def biV : Bi → Value
  | .len => .builtin "len" | .range => .type "range" | .list => .type "list" | .str => .type "str" | .int => .type "int" | .sum => .builtin "sum"
  | .divmod => .builtin "divmod" | .sorted => .builtin "sorted" | .zip => .type "zip" | .iter => .builtin "iter"

/-- a sequence at an address -/
structure SeqAt (x : St) (mk : List Value → Nat → Obj) (c : Col) (a : Addr) (len : Nat) (R : List Value → Prop) (vs : List Value) (ep : Nat) : Prop where
  c : x.κ a = c
  g : x.h.get? a = some (mk vs ep)
  b : len ≤ 2 ^ 24
  q : R vs

section
variable (T : Tp)

noncomputable def DRep (h : Heap) (a : Addr) : Keys → List Value → Prop
  | .ki l, us => l.length = us.length ∧ h.DictOf (intKind T.prog T.w) a (l.zip us)
  | .ks l, us => l.length = us.length ∧ h.DictOf (strKind T.prog T.w) a (l.zip us)
structure DictAt (x : St) (c : Col) (a : Addr) (ks : Keys) (R : List Value → Prop) (vs : List Value) : Prop where
  c : x.κ a = c
  d : DRep T x.h a ks vs
  q : R vs
structure RangeAt (x : St) (i j : Int) (a : Addr) (t u q : Tok) : Prop where
  c : x.κ a = .fz
  b : 0 ≤ i ∧ i < 2 ^ 40 ∧ -(2 ^ 40) < j ∧ j < 2 ^ 40
  g : IsRange x.h a i j 1 t u q
structure StreamAt (x : St) (l : Nat) (a : Addr) (objs : List (Addr × Obj)) : Prop where
  o : ∀ p ∈ objs, x.κ p.1 = .fz ∧ x.h.get? p.1 = some p.2
  z : T.StreamObjs objs a (x.γ l)
  l : l < x.n

mutual
noncomputable def Rep (x : St) : AV → Value → Prop
  | .none, v => v = .none
  | .bool b, v => v = .bool b
  | .int i, v => ∃ t, v = .int i t
  | .str s, v => ∃ t, v = .str s t
  | .list xs, v => ∃ a vs ep, v = .ref a ∧ SeqAt x lobj .fz a xs.length (RepL x xs) vs ep
  | .tuple xs, v => ∃ a vs ep, v = .ref a ∧ SeqAt x tobj .fz a xs.length (RepL x xs) vs ep
  | .dict ks xs, v => ∃ a vs, v = .ref a ∧ (a == sysModules) = false ∧ DictAt T x .fz a ks (RepL x xs) vs
  | .range i j, v => ∃ a t u q, v = .ref a ∧ RangeAt x i j a t u q
  | .loc l, v => v = .ref (x.γ l) ∧ l < x.n
  | .stream l, v => ∃ a objs, v = .ref a ∧ StreamAt T x l a objs
  | .glob f, v => T.fnV f = some v
  | .bi f, v => biV f = v
  | .opq a, v => v = .ref a
noncomputable def RepL (x : St) : List AV → List Value → Prop
  | [], vs => vs = []
  | y :: ys, vs => ∃ v us, vs = v :: us ∧ Rep x y v ∧ RepL x ys us
end

/-- the four fields of a lexer -/
noncomputable def lexNames : List Str := ["lineno", "instream", "whitespace", "pushback"]
noncomputable def blanks : Str := ⟨#[10, 9, 13, 32]⟩

/-- a lexer behind its location -/
structure LexR (x : St) (l : Nat) (ln : Int) (lf : Nat) (push : List AV) (o : Obj) (d pb : Addr) (vs : List Value) (ep : Nat) (sv : Value) (t u : Tok) (mA : Str → Option Value) : Prop where
  g : x.h.get? (x.γ l) = some o
  cls : o.cls = .ref T.C
  nc : ∀ c, o.data ≠ .cls c
  od : o.dict = some d
  ne : d ≠ x.γ l
  N : x.h.Ns1 d mA
  c1 : x.κ (x.γ l) = .ob l
  c2 : x.κ d = .ob l
  pd : pb ≠ d
  pl : pb ≠ x.γ l
  m1 : mA "lineno" = some (.int ln t)
  m2 : mA "instream" = some sv
  r1 : Rep T x (.stream lf) sv
  m3 : mA "whitespace" = some (.str blanks u)
  m4 : mA "pushback" = some (.ref pb)
  m5 : ∀ y, y ∉ lexNames → mA y = none
  p : SeqAt x lobj (.ob l) pb push.length (RepL T x push) vs ep

noncomputable def ORep (x : St) (l : Nat) : AObj → Prop
  | .tab b => x.γ l = T.tabA ∧ x.κ (x.γ l) = .ob l ∧ ∃ ps, x.h.get? (x.γ l) = some { cls := .none, data := .fields ps } ∧ (b = true → ps = #[])
  | .list xs => ∃ vs ep, SeqAt x lobj (.ob l) (x.γ l) xs.length (RepL T x xs) vs ep
  | .dict ks xs => ∃ vs, DictAt T x (.ob l) (x.γ l) ks (RepL T x xs) vs
  | .lexer ln lf push => ∃ o d pb vs ep sv t u mA, LexR T x l ln lf push o d pb vs ep sv t u mA

structure Inv (x : St) (σ : Sto) : Prop where
  base : ∀ a o, T.h₀.get? a = some o → x.h.get? a = some o ∧ x.κ a = .fz
  lt : ∀ l o, σ.get l = some o → l < x.n
  objs : ∀ l o, σ.get l = some o → ORep T x l o
  nx : x.n = σ.nx
end

/-- what stands at these places stays, with its colour -/
structure Go (C : Addr → Prop) (x y : St) : Prop where
  keep : ∀ a o, x.h.get? a = some o → C a → y.h.get? a = some o
  col : ∀ a o, x.h.get? a = some o → C a → y.κ a = x.κ a
  gam : ∀ l, l < x.n → y.γ l = x.γ l
  nx : x.n ≤ y.n

structure Step (P : Addr → Col → Prop) (x y : St) : Prop where
  keep : ∀ a o, x.h.get? a = some o → ¬ P a (x.κ a) → y.h.get? a = some o
  alive : ∀ a o, x.h.get? a = some o → ∃ o, y.h.get? a = some o
  col : ∀ a o, x.h.get? a = some o → (x.κ a).isOb = false → y.κ a = x.κ a
  gam : ∀ l, l < x.n → y.γ l = x.γ l
  nx : x.n ≤ y.n
  gens : y.s.gens = x.s.gens
  os : y.s.os = x.s.os

/-- what an expression may change: the objects behind locations -/
noncomputable def Pe (_ : Addr) (c : Col) : Prop := c.isOb = true
/-- what a statement of a frame may change besides: the frame's own -/
noncomputable def Ps (W : Addr → Prop) (a : Addr) (c : Col) : Prop := c.isOb = true ∨ (W a ∧ c ≠ .fz)

section
variable {T : Tp} {P : Addr → Col → Prop} {C : Addr → Prop} {W : Addr → Prop} {x y z : St} {σ : Sto}

theorem Step.refl : Step P x x := ⟨fun _ _ e _ => e, fun _ _ e => ⟨_, e⟩, fun _ _ _ _ => rfl, fun _ _ => rfl, Nat.le_refl _, rfl, rfl⟩
theorem Step.mono {P' : Addr → Col → Prop} (S : Step P x y) (hp : ∀ a c, P a c → P' a c) : Step P' x y := ⟨fun a o e q => S.keep a o e fun h => q (hp _ _ h), S.alive, S.col, S.gam, S.nx, S.gens, S.os⟩
theorem Step.ps (S : Step Pe x y) : Step (Ps W) x y := S.mono fun _ _ h => .inl h
theorem Step.trans (S : Step P x y) (R : Step P y z) (hp : ∀ a c, c.isOb = true → P a c) : Step P x z where
  keep a o e q := by
    have hc : (x.κ a).isOb = false := Bool.eq_false_iff.mpr fun h => q (hp _ _ h)
    exact R.keep a o (S.keep a o e q) (S.col a o e hc ▸ q)
  alive a o e := (S.alive a o e).elim fun _ e => R.alive a _ e
  col a o e q := (S.alive a o e).elim fun _ e' => (R.col a _ e' (S.col a o e q ▸ q)).trans (S.col a o e q)
  gam l h := (R.gam l (Nat.lt_of_lt_of_le h S.nx)).trans (S.gam l h)
  nx := Nat.le_trans S.nx R.nx
  gens := R.gens.trans S.gens
  os := R.os.trans S.os
theorem Step.te (S : Step Pe x y) (R : Step Pe y z) : Step Pe x z := S.trans R fun _ _ h => h
theorem Step.ts (S : Step (Ps W) x y) (R : Step (Ps W) y z) : Step (Ps W) x z := S.trans R fun _ _ h => .inl h
/-- what is not there yet is no matter -/
theorem Step.pe (S : Step (Ps W) x y) (hw : ∀ a, W a → x.h.get? a = none) : Step Pe x y :=
  ⟨fun a o e q => S.keep a o e fun h => h.elim q fun h => none_some (hw a h.1) e, S.alive, S.col, S.gam, S.nx, S.gens, S.os⟩
theorem ob_fz {c : Col} (h : c = .fz) : c.isOb = false := h ▸ rfl
theorem ob_fr {c : Col} {L : Addr} (h : c = .fr L) : c.isOb = false := h ▸ rfl
theorem ob_tmp {c : Col} (h : c = .tmp) : c.isOb = false := h ▸ rfl
theorem no_pe {c : Col} {a : Addr} (h : c.isOb = false) : ¬ Pe a c := fun q => Bool.noConfusion (h.symm.trans q)
theorem Step.goE (S : Step Pe x y) : Go (fun a => (x.κ a).isOb = false) x y := ⟨fun a o e q => S.keep a o e (no_pe q), S.col, S.gam, S.nx⟩
theorem Step.goS (S : Step (Ps W) x y) : Go (fun a => x.κ a = .fz ∨ ((x.κ a).isOb = false ∧ ¬ W a)) x y :=
  ⟨fun a o e q => S.keep a o e fun h => q.elim (fun q => h.elim (no_pe (a := a) (ob_fz q)) fun h => h.2 q) fun q => h.elim (no_pe (a := a) q.1) fun h => q.2 h.1, fun a o e q => S.col a o e (q.elim ob_fz (·.1)), S.gam, S.nx⟩

theorem SeqAt.go {mk : List Value → Nat → Obj} {c : Col} {a : Addr} {len : Nat} {R R' : List Value → Prop} {vs : List Value} {ep : Nat} (G : Go C x y) (h : C a) (r : R vs → R' vs) (q : SeqAt x mk c a len R vs ep) : SeqAt y mk c a len R' vs ep :=
  ⟨(G.col a _ q.g h).trans q.c, G.keep a _ q.g h, q.b, r q.q⟩
theorem dictOf_at {K : Type} [DecidableEq K] {prog : Program} {w : World} {knd : KeyKind prog w K} {h h' : Heap} {a : Addr} {kvs : List (K × Value)} (d : h.DictOf knd a kvs) (hk : ∀ o, h.get? a = some o → h'.get? a = some o) : h'.DictOf knd a kvs :=
  d.elim fun o d => d.elim fun es d => d.elim fun ep d => ⟨o, es, ep, hk o d.1, d.2⟩
theorem DRep.at {h h' : Heap} {a : Addr} {ks : Keys} {us : List Value} (d : DRep T h a ks us) (hk : ∀ o, h.get? a = some o → h'.get? a = some o) : DRep T h' a ks us := by
  cases ks with
  | ki l => exact ⟨d.1, dictOf_at d.2 hk⟩
  | ks l => exact ⟨d.1, dictOf_at d.2 hk⟩
theorem dictOf_some {K : Type} [DecidableEq K] {prog : Program} {w : World} {knd : KeyKind prog w K} {h : Heap} {a : Addr} {kvs : List (K × Value)} (d : h.DictOf knd a kvs) : ∃ o, h.get? a = some o ∧ o.dict = none ∧ o.cls = .type "dict" :=
  d.elim fun o d => d.elim fun _ d => d.elim fun _ d => ⟨o, d.1, d.2.1.2.1, d.2.1.1⟩
theorem DRep.some {h : Heap} {a : Addr} {ks : Keys} {us : List Value} (d : DRep T h a ks us) : ∃ o, h.get? a = some o ∧ o.dict = none ∧ o.cls = .type "dict" := by
  cases ks with
  | ki l => exact dictOf_some d.2
  | ks l => exact dictOf_some d.2
theorem DictAt.go {c : Col} {a : Addr} {ks : Keys} {R R' : List Value → Prop} {vs : List Value} (G : Go C x y) (h : C a) (r : R vs → R' vs) (q : DictAt T x c a ks R vs) : DictAt T y c a ks R' vs :=
  q.d.some.elim fun _ ho => ⟨(G.col a _ ho.1 h).trans q.c, q.d.at fun o e => G.keep a o e h, r q.q⟩

mutual
theorem Rep.go (G : Go C x y) (h : ∀ a, x.κ a = .fz → C a) : ∀ (v : AV) {u : Value}, Rep T x v u → Rep T y v u
  | .none, _, r => r
  | .bool _, _, r => r
  | .int _, _, r => r
  | .str _, _, r => r
  | .list xs, _, r => r.elim fun a r => r.elim fun vs r => r.elim fun ep r => ⟨a, vs, ep, r.1, r.2.go G (h a r.2.c) (RepL.go G h xs)⟩
  | .tuple xs, _, r => r.elim fun a r => r.elim fun vs r => r.elim fun ep r => ⟨a, vs, ep, r.1, r.2.go G (h a r.2.c) (RepL.go G h xs)⟩
  | .dict ks xs, _, r => r.elim fun a r => r.elim fun vs r => ⟨a, vs, r.1, r.2.1, r.2.2.go G (h a r.2.2.c) (RepL.go G h xs)⟩
  | .range _ _, _, r => r.elim fun a r => r.elim fun t r => r.elim fun u r => r.elim fun q r => ⟨a, t, u, q, r.1, (G.col a _ r.2.g (h a r.2.c)).trans r.2.c, r.2.b, G.keep a _ r.2.g (h a r.2.c)⟩
  | .loc l, _, r => ⟨(G.gam l r.2).symm ▸ r.1, Nat.lt_of_lt_of_le r.2 G.nx⟩
  | .stream l, _, r => r.elim fun a r => r.elim fun objs r => ⟨a, objs, r.1, fun p hp => ⟨(G.col _ _ (r.2.o p hp).2 (h _ (r.2.o p hp).1)).trans (r.2.o p hp).1, G.keep _ _ (r.2.o p hp).2 (h _ (r.2.o p hp).1)⟩, (G.gam l r.2.l).symm ▸ r.2.z, Nat.lt_of_lt_of_le r.2.l G.nx⟩
  | .glob _, _, r => r
  | .bi _, _, r => r
  | .opq _, _, r => r
theorem RepL.go (G : Go C x y) (h : ∀ a, x.κ a = .fz → C a) : ∀ (vs : List AV) {us : List Value}, RepL T x vs us → RepL T y vs us
  | [], _, r => r
  | v :: vs, _, r => r.elim fun w r => r.elim fun us r => ⟨w, us, r.1, Rep.go G h v r.2.1, RepL.go G h vs r.2.2⟩
end

/-- an object at its location lasts -/
theorem LexR.go (G : Go C x y) (h : ∀ a, x.κ a = .fz → C a) {l : Nat} (hl : l < x.n) (ho : ∀ a, x.κ a = .ob l → C a) {ln : Int} {lf : Nat} {push : List AV} {o : Obj} {d pb : Addr} {vs : List Value} {ep : Nat} {sv : Value} {t u : Tok} {mA : Str → Option Value}
    (r : LexR T x l ln lf push o d pb vs ep sv t u mA) : LexR T y l ln lf push o d pb vs ep sv t u mA := by
  have e := G.gam l hl
  obtain ⟨od, es, en, hod, hN⟩ := r.N
  constructor
  · rw [e]; exact G.keep _ _ r.g (ho _ r.c1)
  · exact r.cls
  · exact r.nc
  · exact r.od
  · rw [e]; exact r.ne
  · exact ⟨od, es, en, G.keep _ _ hod (ho _ r.c2), hN⟩
  · rw [e]; exact (G.col _ _ r.g (ho _ r.c1)).trans r.c1
  · exact (G.col _ _ hod (ho _ r.c2)).trans r.c2
  · exact r.pd
  · rw [e]; exact r.pl
  · exact r.m1
  · exact r.m2
  · exact Rep.go G h _ r.r1
  · exact r.m3
  · exact r.m4
  · exact r.m5
  · exact r.p.go G (ho _ r.p.c) (RepL.go G h push)
theorem ORep.go (G : Go C x y) (h : ∀ a, x.κ a = .fz → C a) {l : Nat} (hl : l < x.n) (ho : ∀ a, x.κ a = .ob l → C a) (o : AObj) (r : ORep T x l o) : ORep T y l o := by
  have e := G.gam l hl
  cases o with
  | tab b => exact ⟨e.trans r.1, e ▸ r.2.2.elim fun ps q => (G.col _ _ q.1 (ho _ r.2.1)).trans r.2.1, r.2.2.elim fun ps q => ⟨ps, e ▸ G.keep _ _ q.1 (ho _ r.2.1), q.2⟩⟩
  | list xs => exact r.elim fun vs r => r.elim fun ep q => ⟨vs, ep, e ▸ q.go G (ho _ q.c) (RepL.go G h xs)⟩
  | dict ks xs => exact r.elim fun vs q => ⟨vs, e ▸ q.go G (ho _ q.c) (RepL.go G h xs)⟩
  | lexer ln lf push => exact r.elim fun o r => r.elim fun d r => r.elim fun pb r => r.elim fun vs r => r.elim fun ep r => r.elim fun sv r => r.elim fun t r => r.elim fun u r => r.elim fun mA r => ⟨o, d, pb, vs, ep, sv, t, u, mA, r.go G h hl ho⟩
theorem Inv.go (I : Inv T x σ) (G : Go C x y) (h : ∀ a, x.κ a = .fz → C a) (ho : ∀ l a, x.κ a = .ob l → C a) (hn : y.n = x.n) : Inv T y σ :=
  ⟨fun a o e => ⟨G.keep a o (I.base a o e).1 (h a (I.base a o e).2), (G.col a o (I.base a o e).1 (h a (I.base a o e).2)).trans (I.base a o e).2⟩, fun l o e => hn ▸ I.lt l o e, fun l o e => ORep.go G h (I.lt l o e) (ho l) o (I.objs l o e), hn.trans I.nx⟩
end
end Mine
namespace Mine
open PySem

noncomputable def upc (κ : Addr → Col) (a : Addr) (c : Col) : Addr → Col := fun b => if b = a then c else κ b

/-- a run's end: what it gave, what the model gave -/
structure End (T : Tp) {α β : Type} (R : St → β → α → Prop) (x : St) (r : β × Sto) (u : α) (y : St) : Prop where
  S : Step Pe x y
  I : Inv T y r.2
  R : R y r.1 u
noncomputable abbrev Ev (T : Tp) : St → AV × Sto → Value → St → Prop := End T (Rep T)

/-- no exception -/
noncomputable abbrev NoE : Value → Shared → Prop := fun _ _ => False
noncomputable abbrev Wp (T : Tp) (A : Around) {α : Type} (p : Sem α) (Q : α → Shared → Prop) (x : St) : Prop := wpAny (model T.prog T.w) A p Q NoE x.s
noncomputable abbrev Kn (T : Tp) {α β : Type} (R : St → β → α → Prop) (x : St) (P : β × Sto → Prop) (Q : α → Shared → Prop) : Prop := ∀ r u y, P r → End T R x r u y → Q u y.s
noncomputable abbrev Kv (T : Tp) (x : St) (P : AV × Sto → Prop) (Q : Value → Shared → Prop) : Prop := Kn T (Rep T) x P Q

/-- only these places are written to -/
structure But (B : Addr → Prop) (x y : St) : Prop where
  keep : ∀ a o, x.h.get? a = some o → ¬ B a → y.h.get? a = some o
  col : ∀ a o, x.h.get? a = some o → y.κ a = x.κ a
  gam : ∀ l, l < x.n → y.γ l = x.γ l
  nx : x.n ≤ y.n
  gens : y.s.gens = x.s.gens
  os : y.s.os = x.s.os

section
variable {T : Tp} {P : Addr → Col → Prop} {B W : Addr → Prop} {x y z : St} {σ : Sto} {r r' : AV × Sto} {u v : Value}

theorem get?_size (h : Heap) : h.get? h.objs.size = none := by
  cases e : h.get? h.objs.size with
  | none => rfl
  | some o => exact absurd (Heap.lt_size e) (Nat.lt_irrefl _)
theorem ne_size {h : Heap} {a : Addr} {o : Obj} (e : h.get? a = some o) : a ≠ h.objs.size := Nat.ne_of_lt (Heap.lt_size e)
theorem upc_ne {κ : Addr → Col} {a b : Addr} {c : Col} (h : b ≠ a) : upc κ a c b = κ b := if_neg h
theorem upc_self {κ : Addr → Col} {a : Addr} {c : Col} : upc κ a c a = c := if_pos rfl
theorem upg_ne {γ : Nat → Addr} {l k : Nat} {a : Addr} (h : l ≠ k) : upg γ k a l = γ l := if_neg h
theorem upg_self {γ : Nat → Addr} {k : Nat} {a : Addr} : upg γ k a k = a := if_pos rfl

theorem Kn.on {α β : Type} {R : St → β → α → Prop} {Pr : β × Sto → Prop} {Q : α → Shared → Prop} (k : Kn T R x Pr Q) (S : Step Pe x y) : Kn T R y Pr Q := fun r u z p e => k r u z p ⟨S.te e.S, e.I, e.R⟩
theorem Rep.step {a : AV} (R : Rep T x a u) (S : Step Pe x y) : Rep T y a u := Rep.go S.goE (fun _ => ob_fz) a R
theorem RepL.step {a : List AV} {us : List Value} (R : RepL T x a us) (S : Step Pe x y) : RepL T y a us := RepL.go S.goE (fun _ => ob_fz) a R
theorem Rep.steps {a : AV} (R : Rep T x a u) (S : Step (Ps W) x y) : Rep T y a u := Rep.go S.goS (fun _ => .inl) a R
theorem RepL.steps {a : List AV} {us : List Value} (R : RepL T x a us) (S : Step (Ps W) x y) : RepL T y a us := RepL.go S.goS (fun _ => .inl) a R

theorem But.go (M : But B x y) : Go (fun a => ¬ B a) x y := ⟨M.keep, fun a o e _ => M.col a o e, M.gam, M.nx⟩
theorem But.step (M : But B x y) (hp : ∀ a, B a → P a (x.κ a)) (ha : ∀ a o, B a → x.h.get? a = some o → ∃ o, y.h.get? a = some o) : Step P x y :=
  ⟨fun a o e q => M.keep a o e fun h => q (hp a h), fun a o e => (Classical.em (B a)).elim (fun h => ha a o h e) fun h => ⟨o, M.keep a o e h⟩, fun a o e _ => M.col a o e, M.gam, M.nx, M.gens, M.os⟩
theorem But.inv (M : But B x y) (I : Inv T x σ) (h : ∀ a, B a → (∃ L, x.κ a = .fr L) ∨ x.κ a = .tmp) (hn : y.n = x.n) : Inv T y σ :=
  I.go M.go (fun a e q => (h a q).elim (fun q => q.elim fun L q => Col.noConfusion (e.symm.trans q)) fun q => Col.noConfusion (e.symm.trans q)) (fun l a e q => (h a q).elim (fun q => q.elim fun L q => Col.noConfusion (e.symm.trans q)) fun q => Col.noConfusion (e.symm.trans q)) hn
/-- what was not there before may change -/
theorem Step.but (S : Step P x y) (M : But B y z) (hn : ∀ a, B a → x.h.get? a = none) : Step P x z where
  keep a o e q := M.keep a o (S.keep a o e q) fun h => none_some (hn a h) e
  alive a o e := (S.alive a o e).elim fun o' e' => ⟨o', M.keep a o' e' fun h => none_some (hn a h) e⟩
  col a o e q := (S.alive a o e).elim fun o' e' => (M.col a o' e').trans (S.col a o e q)
  gam l h := (M.gam l (Nat.lt_of_lt_of_le h S.nx)).trans (S.gam l h)
  nx := Nat.le_trans S.nx M.nx
  gens := M.gens.trans S.gens
  os := M.os.trans S.os

/-- nothing is written to -/
noncomputable abbrev Ext : St → St → Prop := But fun _ => False
theorem Ext.step (M : Ext x y) : Step P x y := But.step M (fun _ h => h.elim) fun _ _ h => h.elim
theorem Ext.inv (M : Ext x y) (I : Inv T x σ) (hn : y.n = x.n) : Inv T y σ := But.inv M I (fun _ h => h.elim) hn
theorem Ext.rep (M : Ext x y) {a : AV} (R : Rep T x a u) : Rep T y a u := Rep.go M.go (fun _ _ h => h) a R
theorem Ext.repL (M : Ext x y) {a : List AV} {us : List Value} (R : RepL T x a us) : RepL T y a us := RepL.go M.go (fun _ _ h => h) a R
theorem Ext.old {h' : Heap} {tk : Nat} {κ' : Addr → Col} (hk : ∀ a o, x.h.get? a = some o → h'.get? a = some o) (hc : ∀ a o, x.h.get? a = some o → κ' a = x.κ a) : Ext x (x.re h' tk κ') :=
  ⟨fun a o e _ => hk a o e, hc, fun _ _ => rfl, Nat.le_refl _, rfl, rfl⟩
theorem Ext.toks {tk : Nat} : Ext x (x.to x.h tk) := .old (fun _ _ e => e) fun _ _ _ => rfl
theorem Ext.new {h' : Heap} {tk : Nat} {κ' : Addr → Col} {a : Addr} (hk : ∀ a o, x.h.get? a = some o → h'.get? a = some o) (hc : ∀ a o, x.h.get? a = some o → κ' a = x.κ a) : Ext x (x.add h' tk κ' a) :=
  ⟨fun a o e _ => hk a o e, hc, fun l hl => upg_ne (Nat.ne_of_lt hl), Nat.le_succ _, rfl, rfl⟩
theorem Inv.goNew {C : Addr → Prop} {o : AObj} (I : Inv T x σ) (G : Go C x y) (h : ∀ a, x.κ a = .fz → C a) (ho : ∀ l a, x.κ a = .ob l → C a) (hn : y.n = x.n + 1) (q : ORep T y x.n o) : Inv T y (σ.new o) where
  base a o e := ⟨G.keep a o (I.base a o e).1 (h a (I.base a o e).2), (G.col a o (I.base a o e).1 (h a (I.base a o e).2)).trans (I.base a o e).2⟩
  lt l o' e := by
    rw [hn]
    by_cases h : l = σ.nx
    · rw [h, ← I.nx]; exact Nat.lt_succ_self _
    · exact Nat.lt_succ_of_lt (I.lt l o' ((if_neg h).symm.trans e))
  objs l o' e := by
    by_cases hl : l = σ.nx
    · have e2 : some o = some o' := (if_pos hl).symm.trans e
      injection e2 with e2
      rw [hl, ← I.nx, ← e2]; exact q
    · have e2 : σ.get l = some o' := (if_neg hl).symm.trans e
      exact ORep.go G h (I.lt l o' e2) (ho l) o' (I.objs l o' e2)
  nx := by rw [hn, I.nx]; rfl
theorem Ext.invNew {o : AObj} (M : Ext x y) (I : Inv T x σ) (hn : y.n = x.n + 1) (q : ORep T y x.n o) : Inv T y (σ.new o) := I.goNew M.go (fun _ _ h => h) (fun _ _ _ h => h) hn q
theorem Ext.push {o : Obj} {c : Col} {tk : Nat} : Ext x (x.re (x.h.push o) tk (upc x.κ x.h.objs.size c)) := .old (fun _ _ e => Heap.get?_push_of_some _ e) fun _ _ e => upc_ne (ne_size e)

/-- one location is written to: the places of its colour alone change -/
theorem upd_inv {l : Nat} {o : AObj} (M : But (fun a => x.κ a = .ob l) x y) (I : Inv T x σ) (hl : l < x.n) (hn : y.n = x.n) (q : ORep T y l o) : Inv T y (σ.upd l o) where
  base a o e := ⟨M.keep a o (I.base a o e).1 fun h => Col.noConfusion (h.symm.trans (I.base a o e).2), (M.col a o (I.base a o e).1).trans (I.base a o e).2⟩
  lt k o' e := by
    rw [hn]
    by_cases h : k = l
    · rw [h]; exact hl
    · exact I.lt k o' ((if_neg h).symm.trans e)
  objs k o' e := by
    by_cases h : k = l
    · have e2 : some o = some o' := (if_pos h).symm.trans e
      injection e2 with e2
      rw [h, ← e2]; exact q
    · have e2 : σ.get k = some o' := (if_neg h).symm.trans e
      exact ORep.go M.go (fun a e h => Col.noConfusion (e.symm.trans h)) (I.lt k o' e2) (fun a e h' => h (Col.ob.inj (e.symm.trans h'))) o' (I.objs k o' e2)
  nx := hn.trans I.nx
/-- the places of one location are written to -/
theorem But.upd {l : Nat} {h' : Heap} {tk : Nat} (hk : ∀ a o, x.κ a ≠ .ob l → x.h.get? a = some o → h'.get? a = some o) : But (fun a => x.κ a = .ob l) x (x.to h' tk) :=
  ⟨fun a o e h => hk a o h e, fun _ _ _ => rfl, fun _ _ => rfl, Nat.le_refl _, rfl, rfl⟩
theorem But.same {b : Addr} {h' : Heap} {tk : Nat} (hs : Heap.SameBut b x.h h') : But (· = b) x (x.to h' tk) :=
  ⟨fun a o e h => (hs.2 a h).trans e, fun _ _ _ => rfl, fun _ _ => rfl, Nat.le_refl _, rfl, rfl⟩
theorem But.more {B' : Addr → Prop} (M : But B x y) (h : ∀ a, B a → B' a) : But B' x y := ⟨fun a o e q => M.keep a o e fun z => q (h a z), M.col, M.gam, M.nx, M.gens, M.os⟩

section
variable {Pr : AV × Sto → Prop} {Q : Value → Shared → Prop} {tk : Nat}
theorem Kn.toks (I : Inv T x σ) (k : Kv T x Pr Q) {a : AV} (R : Rep T x a u) (h : Pr (a, σ)) : Q u { x.s with toks := tk } := k _ _ (x.to x.h tk) h ⟨Ext.toks.step, Ext.toks.inv I rfl, Ext.toks.rep R⟩
theorem Kn.here (I : Inv T x σ) (k : Kv T x Pr Q) {a : AV} (R : Rep T x a u) (h : Pr (a, σ)) : Q u x.s := k _ _ x h ⟨.refl, I, R⟩
theorem Kn.int (I : Inv T x σ) (k : Kv T x Pr Q) {i : Int} {t : Tok} (h : Pr (.int i, σ)) : Q (.int i t) { x.s with toks := tk } := k.toks I (a := .int i) ⟨t, rfl⟩ h
theorem Kn.str (I : Inv T x σ) (k : Kv T x Pr Q) {i : Str} {t : Tok} (h : Pr (.str i, σ)) : Q (.str i t) { x.s with toks := tk } := k.toks I (a := .str i) ⟨t, rfl⟩ h
theorem Kn.bool (I : Inv T x σ) (k : Kv T x Pr Q) {b : Bool} (h : Pr (.bool b, σ)) : Q (.bool b) x.s := k.here I (a := .bool b) rfl h

/-- a list is made: frozen, or at a location -/
theorem Kn.list (I : Inv T x σ) (k : Kv T x Pr Q) {c : Cfg} {p : Pos} {xs : List AV} {vs : List Value} {h' : Heap} {a : Addr} {ep : Nat} (hk : ∀ b o, x.h.get? b = some o → h'.get? b = some o) (ha : x.h.get? a = none) (g : h'.get? a = some (lobj vs ep))
    (R : RepL T x xs vs) (b : xs.length ≤ 2 ^ 24) (h : Pr (mkL c p xs σ)) : Q (.ref a) { x.s with heap := h', toks := tk } := by
  have hc : ∀ (col : Col) b o, x.h.get? b = some o → upc x.κ a col b = x.κ b := fun col b o e => upc_ne fun q => none_some ha (q ▸ e)
  unfold mkL at h
  split at h
  · have M := Ext.new (x := x) (tk := tk) (a := a) hk (hc (.ob x.n))
    have q : SeqAt (x.add h' tk (upc x.κ a (.ob x.n)) a) lobj (.ob x.n) a xs.length (RepL T (x.add h' tk (upc x.κ a (.ob x.n)) a) xs) vs ep := ⟨upc_self, g, b, M.repL R⟩
    have e : (x.add h' tk (upc x.κ a (.ob x.n)) a).γ x.n = a := upg_self
    exact k _ _ _ h ⟨M.step, M.invNew I rfl ⟨vs, ep, e.symm ▸ q⟩, I.nx ▸ ⟨congrArg Value.ref e.symm, Nat.lt_succ_self _⟩⟩
  · have M := Ext.old (x := x) (tk := tk) hk (hc .fz)
    exact k _ _ _ h ⟨M.step, M.inv I rfl, a, vs, ep, rfl, upc_self, g, b, M.repL R⟩
theorem Kn.list' (I : Inv T x σ) (k : Kv T x Pr Q) {c : Cfg} {p : Pos} {xs : List AV} {vs : List Value} {ep : Nat} (R : RepL T x xs vs) (b : xs.length ≤ 2 ^ 24) (h : Pr (mkL c p xs σ)) : Q (.ref x.h.objs.size) { x.s with heap := x.h.push (lobj vs ep), toks := tk } :=
  k.list I (fun _ _ e => Heap.get?_push_of_some _ e) (get?_size _) (Heap.get?_push_size _ rfl) R b h
end

-- runs are taken apart
section
variable {α β : Type} {o : Option α} {f : α → Option β} {g : α → β} {Pb : β → Prop} {Pa : α → Prop}
theorem Sat.bindI (h : Sat (o.bind f) Pb) : Sat o fun a => Sat (f a) Pb := by cases o <;> exact h
theorem Sat.mapI (h : Sat (o.map g) Pb) : Sat o fun a => Pb (g a) := by cases o <;> exact h
theorem Sat.iteI {c : Prop} [Decidable c] (h : Sat (if c then o else none) Pa) : c ∧ Sat o Pa := by
  by_cases q : c
  · rw [if_pos q] at h; exact ⟨q, h⟩
  · rw [if_neg q] at h; exact h.elim
theorem Sat.iteE {c : Prop} [Decidable c] {o' : Option α} (h : Sat (if c then o else o') Pa) : (c ∧ Sat o Pa) ∨ Sat o' Pa := by
  by_cases q : c
  · rw [if_pos q] at h; exact .inl ⟨q, h⟩
  · rw [if_neg q] at h; exact .inr h
theorem Sat.of (e : o = some a) (h : Sat o Pa) : Pa a := by rw [e] at h; exact h
theorem Sat.mk' (h : Sat o Pa) : ∃ a, o = some a ∧ Pa a := by
  cases o with
  | none => exact h.elim
  | some a => exact ⟨a, rfl, h⟩
end
section
variable {α : Type} {Pa : α → Prop} {w : AV} {args : List AV} {vs : List Value}
theorem onInt_rep {f : Int → Option α} {C : Value → Prop} (R : Rep T x w u) (h : Sat (onInt w f) Pa) (k : ∀ i t, Sat (f i) Pa → C (.int i t)) : C u := by
  cases w with
  | int i => exact R.elim fun t e => e ▸ k i t h
  | _ => exact h.elim
theorem onStr_rep {f : Str → Option α} {C : Value → Prop} (R : Rep T x w u) (h : Sat (onStr w f) Pa) (k : ∀ i t, Sat (f i) Pa → C (.str i t)) : C u := by
  cases w with
  | str i => exact R.elim fun t e => e ▸ k i t h
  | _ => exact h.elim
theorem onLoc_rep {f : Nat → Option α} {C : Value → Prop} (R : Rep T x w u) (h : Sat (onLoc w f) Pa) (k : ∀ l, l < x.n → Sat (f l) Pa → C (.ref (x.γ l))) : C u := by
  cases w with
  | loc i => exact R.1 ▸ k i R.2 h
  | _ => exact h.elim
theorem onVal_rep {f : List AV → Option α} {C : Value → Prop} (R : Rep T x w u) (h : Sat (onVal w f) Pa) (k : ∀ xs a vs ep, SeqAt x lobj .fz a xs.length (RepL T x xs) vs ep → Sat (f xs) Pa → C (.ref a)) : C u := by
  cases w with
  | list xs => exact R.elim fun a R => R.elim fun vs R => R.elim fun ep R => R.1 ▸ k xs a vs ep R.2 h
  | _ => exact h.elim
theorem onTup_rep {f : List AV → Option α} {C : Value → Prop} (R : Rep T x w u) (h : Sat (onTup w f) Pa) (k : ∀ xs a vs ep, SeqAt x tobj .fz a xs.length (RepL T x xs) vs ep → Sat (f xs) Pa → C (.ref a)) : C u := by
  cases w with
  | tuple xs => exact R.elim fun a R => R.elim fun vs R => R.elim fun ep R => R.1 ▸ k xs a vs ep R.2 h
  | _ => exact h.elim
theorem repL_nil {C : List Value → Prop} (R : RepL T x [] vs) (k : C []) : C vs := (show vs = [] from R) ▸ k
theorem repL_cons {a : AV} {as : List AV} {C : List Value → Prop} (R : RepL T x (a :: as) vs) (k : ∀ u us, Rep T x a u → RepL T x as us → C (u :: us)) : C vs := R.elim fun u R => R.elim fun us R => R.1 ▸ k u us R.2.1 R.2.2
theorem on0_rep {f : Option α} {C : List Value → Prop} (R : RepL T x args vs) (h : Sat (on0 args f) Pa) (k : Sat f Pa → C []) : C vs := by
  cases args with
  | nil => exact repL_nil R (k h)
  | cons a as => exact h.elim
theorem on1_rep {f : AV → Option α} {C : List Value → Prop} (R : RepL T x args vs) (h : Sat (on1 args f) Pa) (k : ∀ a u, Rep T x a u → Sat (f a) Pa → C [u]) : C vs := by
  rcases args with _ | ⟨a, _ | ⟨b, as⟩⟩
  · exact h.elim
  · exact repL_cons R fun u us r R => repL_nil (C := fun us => C (u :: us)) R (k a u r h)
  · exact h.elim
theorem on2_rep {f : AV → AV → Option α} {C : List Value → Prop} (R : RepL T x args vs) (h : Sat (on2 args f) Pa) (k : ∀ a u b v, Rep T x a u → Rep T x b v → Sat (f a b) Pa → C [u, v]) : C vs := by
  rcases args with _ | ⟨a, _ | ⟨b, _ | ⟨c, as⟩⟩⟩
  · exact h.elim
  · exact h.elim
  · exact repL_cons R fun u us r R => repL_cons (C := fun us => C (u :: us)) R fun v us r' R => repL_nil (C := fun us => C (u :: v :: us)) R (k a u b v r r' h)
  · exact h.elim
/-- a list's items, frozen or at a location -/
theorem lst_rep (I : Inv T x σ) {f : List AV → Option α} {C : Value → Prop} (R : Rep T x w u) (h : Sat ((lst? σ w).bind f) Pa) (k : ∀ xs a c vs ep, SeqAt x lobj c a xs.length (RepL T x xs) vs ep → Sat (f xs) Pa → C (.ref a)) : C u := by
  cases w with
  | list xs => exact R.elim fun a R => R.elim fun vs R => R.elim fun ep R => R.1 ▸ k xs a _ vs ep R.2 h
  | loc l =>
    obtain ⟨o, e, h⟩ := h.bindI.mk'
    simp only [lst?] at e
    split at e
    · rename_i xs hg
      injection e with e
      subst e
      exact R.1 ▸ (I.objs _ _ hg).elim fun vs q => q.elim fun ep q => k xs _ _ vs ep q h
    · cases e
  | _ => exact h.elim
theorem onL_rep (I : Inv T x σ) {l : Nat} {f : List AV → Option α} {C : Prop} (h : Sat (onL σ.get l f) Pa) (k : ∀ xs vs ep, σ.get l = some (.list xs) → SeqAt x lobj (.ob l) (x.γ l) xs.length (RepL T x xs) vs ep → Sat (f xs) Pa → C) : C := by
  unfold onL at h
  split at h
  · rename_i xs hg
    exact (I.objs _ _ hg).elim fun vs q => q.elim fun ep q => k xs vs ep hg q h
  · exact h.elim
theorem onX_rep {l : Nat} {f : Int → Nat → List AV → Option α} {C : Prop} (h : Sat (onX σ.get l f) Pa) (k : ∀ ln lf ts, σ.get l = some (.lexer ln lf ts) → Sat (f ln lf ts) Pa → C) : C := by
  unfold onX at h
  cases hg : σ.get l with
  | none => rw [hg] at h; exact h.elim
  | some o =>
    rw [hg] at h
    cases o with
    | lexer ln lf ts => exact k ln lf ts hg h
    | _ => exact h.elim
theorem onD_rep (I : Inv T x σ) {l : Nat} {f : Keys → List AV → Option α} {C : Prop} (h : Sat (onD σ.get l f) Pa) (k : ∀ ks xs vs, σ.get l = some (.dict ks xs) → DictAt T x (.ob l) (x.γ l) ks (RepL T x xs) vs → Sat (f ks xs) Pa → C) : C := by
  unfold onD at h
  split at h
  · rename_i ks xs hg
    exact (I.objs _ _ hg).elim fun vs q => k ks xs vs hg q h
  · exact h.elim
end
end
end Mine
namespace Mine
open PySem

theorem le20 {n : Nat} (h : n ≤ 2 ^ 20) : n ≤ 2 ^ 24 := Nat.le_trans h (by decide)
theorem intBits_small {a : Int} (h : a.natAbs < 2 ^ 31) : Builtin.Int.intBits a ≤ 64 := by
  unfold Builtin.Int.intBits
  by_cases hz : (a == 0) = true
  · rw [if_pos hz]; decide
  · rw [if_neg hz]
    have h0 : a.natAbs ≠ 0 := fun e => hz (beq_iff_eq.mpr (Int.natAbs_eq_zero.mp e))
    exact Nat.le_trans ((Nat.log2_lt h0).mpr h) (by decide)

section
variable {T : Tp} {x : St} {xs ys : List AV} {vs us : List Value} {a : AV} {u v : Value}

theorem RepL.nil : RepL T x [] [] := rfl
theorem RepL.cons (r : Rep T x a u) (q : RepL T x xs us) : RepL T x (a :: xs) (u :: us) := ⟨u, us, rfl, r, q⟩
theorem RepL.one (r : Rep T x a u) : RepL T x [a] [u] := .cons r .nil
theorem RepL.length (r : RepL T x xs vs) : vs.length = xs.length := by
  induction xs generalizing vs with
  | nil => exact repL_nil (C := fun vs => vs.length = 0) r rfl
  | cons a xs ih => exact repL_cons (C := fun vs => vs.length = xs.length + 1) r fun u us _ q => congrArg (· + 1) (ih q)
theorem RepL.append (r : RepL T x xs vs) (q : RepL T x ys us) : RepL T x (xs ++ ys) (vs ++ us) := by
  induction xs generalizing vs with
  | nil => exact repL_nil (C := fun vs => RepL T x ys (vs ++ us)) r q
  | cons a xs ih => exact repL_cons (C := fun vs => RepL T x (a :: (xs ++ ys)) (vs ++ us)) r fun u _ h r => .cons h (ih r)
theorem RepL.take {k : Nat} (r : RepL T x xs vs) : RepL T x (xs.take k) (vs.take k) := by
  induction xs generalizing vs k with
  | nil => exact repL_nil (C := fun vs => RepL T x ([].take k) (vs.take k)) r (by rw [List.take_nil, List.take_nil]; exact .nil)
  | cons a xs ih =>
    cases k with
    | zero => exact .nil
    | succ k => exact repL_cons (C := fun vs => RepL T x (a :: xs.take k) (vs.take (k + 1))) r fun u _ h r => .cons h (ih r)
theorem RepL.drop {k : Nat} (r : RepL T x xs vs) : RepL T x (xs.drop k) (vs.drop k) := by
  induction k generalizing xs vs with
  | zero => exact r
  | succ k ih =>
    cases xs with
    | nil => exact repL_nil (C := fun vs => RepL T x ([].drop (k + 1)) (vs.drop (k + 1))) r (by rw [List.drop_nil, List.drop_nil]; exact .nil)
    | cons a xs => exact repL_cons (C := fun vs => RepL T x (xs.drop k) (vs.drop (k + 1))) r fun u _ h r => ih r
theorem RepL.reverse (r : RepL T x xs vs) : RepL T x xs.reverse vs.reverse := by
  induction xs generalizing vs with
  | nil => exact repL_nil (C := fun vs => RepL T x [] vs.reverse) r .nil
  | cons a xs ih => exact repL_cons (C := fun vs => RepL T x (a :: xs).reverse vs.reverse) r fun u us h r => by rw [List.reverse_cons, List.reverse_cons]; exact (ih r).append (.one h)
theorem RepL.get {k : Nat} {Pa : AV → Prop} (r : RepL T x xs vs) (h : Sat xs[k]? Pa) : ∃ a u, vs[k]? = some u ∧ Rep T x a u ∧ Pa a := by
  induction xs generalizing vs k with
  | nil => exact h.elim
  | cons a xs ih => exact repL_cons (C := fun vs => ∃ a u, vs[k]? = some u ∧ Rep T x a u ∧ Pa a) r fun u us q r => match k with
    | 0 => ⟨a, u, rfl, q, h⟩
    | k + 1 => ih (k := k) r h
end

section
variable {T : Tp} {A : Around} {x : St} {σ : Sto} {Q : Value → Shared → Prop} {a b : AV} {u v : Value}

theorem mulList {l : Addr} {vs : List Value} {ep : Nat} {t : Tok} (hl : x.h.get? l = some (lobj vs ep)) (hsz : vs.length ≤ 100)
    (h : Q (.ref x.h.objs.size) { x.s with heap := x.h.push (lobj (vs ++ vs) 0) }) : Wp T A (binaryOp .Mult (.ref l) (.int 2 t)) Q x := by
  have hl' : x.s.heap.get? l = some { cls := .type "list", dict := none, data := .seq vs.toArray ep, slots := #[] } := hl
  refine wpAny_binaryOp_repeat_ref (T := "list") (U := "int") (by decide) ⟨_, hl, rfl⟩ (fun s' => typeIs_int s' 2 t) noFill_list_mul F.fills_int_mul F.slot_int_rmul repeat_list F.slot_int_index.lookup
    (call_meets F.slot_int_rmul (typeIs_int x.s 2 t) F.entry_int_rmul (F.args_int_rmul_2 _ _) (int___rmul___int_list 2 t l vs.toArray ep)
      ⟨hl', rfl, ⟨_, hl, rfl⟩, call_meets F.slot_list_mul ⟨_, hl, rfl⟩ F.entry_list_mul (F.args_list_mul_2 _ _)
        (AutoListH.list___mul___list_int_3 l vs.toArray ep 2 t (by decide) (by simp; first | lia | omega) (by simp [Builtin.List.listTooLong, sizeLine]; first | lia | omega))
        ⟨hl', ?_⟩⟩)
  have e : (List.foldl (fun x1 x2 => x1 ++ x2) #[] (List.replicate (if vs.toArray.isEmpty = true then 0 else (2 : Int).toNat) vs.toArray) : Array Value) = (vs ++ vs).toArray := by
    cases vs with
    | nil => rfl
    | cons v vs => simp [List.replicate]
  rw [e]
  exact h

section
variable {Pr : AV × Sto → Prop} {c : Cfg} {p : Pos}
theorem addList (I : Inv T x σ) (h : Sat (addL c p a b σ) Pr) (ra : Rep T x a u) (rb : Rep T x b v) (k : Kv T x Pr Q) :
    Wp T A (binaryOp .Add u v) Q x :=
  lst_rep I (C := fun u => Wp T A (binaryOp .Add u v) Q x) ra h fun xs l _ vs ep q h => lst_rep I (C := fun v => Wp T A (binaryOp .Add (.ref l) v) Q x) rb h fun ys l' _ us ep' q' h => by
    have hs : (xs ++ ys).length ≤ 2 ^ 20 := List.length_append ▸ h.iteI.1
    refine P.add_list q.g q'.g ?_ ?_
    · rw [List.append_toArray]
      exact k.list' I (q.q.append q'.q) (le20 hs) h.iteI.2
    · rw [List.size_toArray, List.size_toArray, q.q.length, q'.q.length]
      exact Nat.le_trans h.iteI.1 (by decide)
theorem add_ok (I : Inv T x σ) (h : Sat (addA c p a b σ) Pr) (ra : Rep T x a u) (rb : Rep T x b v) (k : Kv T x Pr Q) : Wp T A (binaryOp .Add u v) Q x := by
  cases a with
  | int i => exact ra.elim fun t e => e ▸ onInt_rep (C := fun v => Wp T A (binaryOp .Add (.int i t) v) Q x) rb h fun j t' h => P.add_int (k.int I h)
  | str y => exact ra.elim fun t e => e ▸ onStr_rep (C := fun v => Wp T A (binaryOp .Add (.str y t) v) Q x) rb h fun z t' h => PyProof.Rows.add_str (fun _ _ => k.str I h.iteI.2) h.iteI.1
  | list xs => exact addList (a := .list xs) (b := b) (c := c) (p := p) I h ra rb k
  | loc l => exact addList (a := .loc l) (b := b) (c := c) (p := p) I h ra rb k
  | _ => exact h.elim
theorem mulV_ok (I : Inv T x σ) (h : Sat (mulV c p a b σ) Pr) (ra : Rep T x a u) (rb : Rep T x b v) (k : Kv T x Pr Q) : Wp T A (binaryOp .Mult u v) Q x :=
  onVal_rep (C := fun u => Wp T A (binaryOp .Mult u v) Q x) ra h fun xs l vs ep q h => onInt_rep (C := fun v => Wp T A (binaryOp .Mult (.ref l) v) Q x) rb h fun j t' h => by
    obtain ⟨⟨rfl, hl⟩, h'⟩ := h.iteI
    refine mulList q.g (by rw [q.q.length]; exact hl) (k.list' (tk := x.s.toks) I (q.q.append q.q) ?_ h')
    rw [List.length_append]
    exact Nat.le_trans (Nat.add_le_add hl hl) (by decide)
theorem mul_ok (I : Inv T x σ) (h : Sat (mulA c p a b σ) Pr) (ra : Rep T x a u) (rb : Rep T x b v) (k : Kv T x Pr Q) : Wp T A (binaryOp .Mult u v) Q x := by
  cases a with
  | int i => exact ra.elim fun t e => e ▸ onInt_rep (C := fun v => Wp T A (binaryOp .Mult (.int i t) v) Q x) rb h fun j t' h => P.mul_int (k.int I h.iteI.2) (IntMulOk.of_left (intBits_small h.iteI.1.1))
  | list xs => exact mulV_ok (a := .list xs) (b := b) (c := c) (p := p) I h ra rb k
  | _ => exact h.elim
theorem bin_ok (I : Inv T x σ) {op : Operator} (h : Sat (binA c p op a b σ) Pr) (ra : Rep T x a u) (rb : Rep T x b v) (k : Kv T x Pr Q) : Wp T A (binaryOp op u v) Q x := by
  cases op with
  | Add => exact add_ok I h ra rb k
  | Mult => exact mul_ok I h ra rb k
  | Sub => exact onInt_rep (C := fun u => Wp T A (binaryOp .Sub u v) Q x) ra h fun i t h => onInt_rep (C := fun v => Wp T A (binaryOp .Sub (.int i t) v) Q x) rb h fun j t' h => P.sub_int (k.int I h)
  | FloorDiv => exact onInt_rep (C := fun u => Wp T A (binaryOp .FloorDiv u v) Q x) ra h fun i t h => onInt_rep (C := fun v => Wp T A (binaryOp .FloorDiv (.int i t) v) Q x) rb h fun j t' h =>
      PyProof.Rows.floordiv_int (Int.ne_of_gt h.iteI.1.1) (k.int I h.iteI.2) (.inl (PyProof.noPylong_small (by have := h.iteI.1; first | lia | omega)))
  | Mod => exact onInt_rep (C := fun u => Wp T A (binaryOp .Mod u v) Q x) ra h fun i t h => onInt_rep (C := fun v => Wp T A (binaryOp .Mod (.int i t) v) Q x) rb h fun j t' h =>
      PyProof.Rows.mod_int' (Int.ne_of_gt h.iteI.1) (k.int I h.iteI.2)
  | Pow =>
    exact onInt_rep (C := fun u => Wp T A (binaryOp .Pow u v) Q x) ra h fun i t h => onInt_rep (C := fun v => Wp T A (binaryOp .Pow (.int i t) v) Q x) rb h fun j t' h => by
      obtain ⟨⟨rfl, rfl⟩, h'⟩ := h.iteI
      exact PyProof.Rows.pow_int (by decide) (by decide) (k.int I h')
  | _ => exact h.elim
end

theorem lobj_list {h : Heap} {a : Addr} {vs : List Value} {ep : Nat} (g : h.get? a = some (lobj vs ep)) : h.IsList a vs.toArray := ⟨_, g, rfl, ep, rfl⟩
theorem SeqAt.len {mk : List Value → Nat → Obj} {c : Col} {l : Addr} {xs : List AV} {vs : List Value} {ep : Nat} (q : SeqAt x mk c l xs.length (RepL T x xs) vs ep) : vs.length ≤ 2 ^ 24 := q.q.length ▸ q.b

theorem truthList (I : Inv T x σ) {Pr : Bool → Prop} {Q : Bool → Shared → Prop} (h : Sat (truthL σ a) Pr) (r : Rep T x a u) (k : ∀ b tk, Pr b → Q b { x.s with toks := tk }) : Wp T A (truthy u) Q x :=
  lst_rep I (C := fun u => Wp T A (truthy u) Q x) r h fun xs l _ vs ep q h => by
    refine wpAny_truthy_list (lobj_list q.g) (Int.lt_of_le_of_lt (Int.ofNat_le.mpr q.len) (show ((2 ^ 24 : Nat) : Int) < 2 ^ 63 by decide)) (k _ _ ?_)
    cases xs with
    | nil => rw [show vs = [] from q.q]; exact h
    | cons b xs => exact repL_cons (C := fun vs => Pr !vs.toArray.isEmpty) q.q fun u us _ _ => h
theorem truth_ok (I : Inv T x σ) {Pr : Bool → Prop} {Q : Bool → Shared → Prop} (h : Sat (truthA σ a) Pr) (r : Rep T x a u) (k : ∀ b tk, Pr b → Q b { x.s with toks := tk }) : Wp T A (truthy u) Q x := by
  cases a with
  | none => rw [show u = .none from r]; exact PyProof.Rows.truthy_none (k _ _ h)
  | bool b => rw [show u = .bool b from r]; exact wpAny_truthy_bool (k _ _ h)
  | int i => exact r.elim fun t e => e ▸ P.truthy_int (k _ _ h)
  | list xs => exact truthList (a := .list xs) I h r k
  | loc l => exact truthList (a := .loc l) I h r k
  | _ => exact h.elim
end
end Mine
namespace Mine
open PySem

theorem idx_fit {n k : Nat} {i : Int} (e : idx n i = some k) (b : n ≤ 2 ^ 24) : -(2 ^ 63) ≤ i ∧ i < 2 ^ 63 ∧ (0 ≤ i → k = i.toNat) :=
  have lo : -(n : Int) ≤ i := Int.not_lt.mp fun h => none_some (seqIndex_below h) e
  have hi : i < n := Int.not_le.mp fun h => none_some (PySem.MeetsSeq.seqIndex_none_hi h) e
  have b' : (n : Int) < 2 ^ 63 := Int.lt_of_le_of_lt (Int.ofNat_le.mpr b) (by decide)
  ⟨Int.le_trans (Int.neg_le_neg (Int.le_of_lt b')) lo, Int.lt_trans hi b', fun h => Option.some.inj (e.symm.trans (seqIndex_of h hi))⟩

section
variable {T : Tp} {A : Around} {x : St} {σ : Sto} {Q : Value → Shared → Prop} {a b : AV} {u v : Value} {xs : List AV} {vs us : List Value}

/-- what is found, or nothing -/
noncomputable def ORel (T : Tp) (x : St) (o : Option AV) (u : Option Value) : Prop := match o with
  | some a => ∃ w, u = some w ∧ Rep T x a w
  | none => u = none
theorem RepL.lk {K : Type} [DecidableEq K] {k : K} {l : List K} (r : RepL T x xs us) : ORel T x (Mine.lk k l xs) (valueAt (l.zip us) k) := by
  induction l generalizing xs us with
  | nil => exact rfl
  | cons y l ih =>
    cases xs with
    | nil => exact repL_nil (C := fun us => ORel T x none (valueAt ((y :: l).zip us) k)) r rfl
    | cons a xs => 
      refine repL_cons (C := fun us => ORel T x (if y = k then some a else Mine.lk k l xs) (valueAt ((y :: l).zip us) k)) r fun u us q r => ?_
      by_cases h : y = k
      · rw [if_pos h]
        exact ⟨u, by show Option.map _ (List.find? _ ((y, u) :: l.zip us)) = _; rw [List.find?_cons_of_pos (by exact decide_eq_true h)]; rfl, q⟩
      · rw [if_neg h]
        have e : valueAt ((y :: l).zip (u :: us)) k = valueAt (l.zip us) k := congrArg (Option.map _) (List.find?_cons_of_neg (a := (y, u)) (l := l.zip us) fun z => h (of_decide_eq_true z))
        rw [e]
        exact ih r
theorem isInt_self (i : Int) (t : Tok) : (intKind T.prog T.w).is i (.int i t) = true := beq_self_eq_true i
theorem isStr_self (y : Str) (t : Tok) : (strKind T.prog T.w).is y (.str y t) = true := beq_self_eq_true y

/-- a key found, or not, in a dict -/
theorem findKey_rep {l : Addr} {ks : Keys} {Po : Option AV → Prop} {C : Value → Prop} (D : DRep T x.h l ks us) (L : RepL T x xs us) (rk : Rep T x a v) (h : Sat (findKey a ks xs) Po)
    (k : ∀ {K : Type} [DecidableEq K] (knd : KeyKind T.prog T.w K) i f r v, knd.is i v = true → x.h.MapOf knd l f → ORel T x r (f i) → Po r → C v) : C v := by
  cases ks with
  | ki ls => exact onInt_rep (C := C) rk h fun i t h => k _ i _ _ _ (isInt_self i t) D.2.mapOf L.lk h
  | ks ls => exact onStr_rep (C := C) rk h fun i t h => k _ i _ _ _ (isStr_self i t) D.2.mapOf L.lk h

/-- what has items -/
noncomputable def Ix (x : St) (v : Value) : Prop := ∃ Ty id, x.s.TypeIs v Ty ∧ typeLookup (.type Ty) "__getitem__" = pure (some (.builtin id))
noncomputable abbrev Got (T : Tp) (A : Around) (x : St) (Q : Value → Shared → Prop) (v u : Value) : Prop := Ix x v ∧ Wp T A (getItem v u) Q x
theorem SeqAt.ix {c : Col} {l : Addr} {len : Nat} {R : List Value → Prop} {ep : Nat} (q : SeqAt x lobj c l len R vs ep) : Ix x (.ref l) := ⟨"list", _, ⟨_, q.g, rfl⟩, slot_list_getitem.lookup⟩

theorem getItem_list_at {l : Addr} {ep : Nat} {i : Int} {t : Tok} {k : Nat} (g : x.h.get? l = some (lobj vs ep)) (hl : vs.length ≤ 2 ^ 24)
    (hi : idx vs.length i = some k) (hu : vs[k]? = some u) (h : Q u x.s) : Wp T A (getItem (.ref l) (.int i t)) Q x := by
  have b := idx_fit hi hl
  by_cases h0 : 0 ≤ i
  · exact wpAny_getItem_list (lobj_list g) h0 b.2.1 (by rw [← b.2.2 h0, List.getElem?_toArray]; exact hu) h
  · exact PySem.W.kde_getNeg (lobj_list g) (Int.not_le.mp h0) b.1 hi hu h

section
variable {Pr : AV → Prop}
theorem getS_ok (I : Inv T x σ) {y : Str} {t : Tok} (h : Sat (getS y b) Pr) (rb : Rep T x b v) (k : ∀ r u tk, Pr r → Rep T x r u → Q u { x.s with toks := tk }) : Got T A x Q (.str y t) v :=
  onInt_rep (C := Got T A x Q (.str y t)) rb h fun i t' h => ⟨⟨"str", _, typeIs_str _ _ _, F.slot_str_getitem.lookup⟩, by
    obtain ⟨hl, h⟩ := h.iteI
    obtain ⟨c, hc, h⟩ := h.bindI.mk'
    obtain ⟨j, hj, _⟩ := Option.bind_eq_some_iff.mp hc
    have f := idx_fit hj (Nat.le_trans hl (by decide))
    exact P.getItem_str (by rw [decide_eq_false (Int.not_lt.mpr f.1), decide_eq_false (Int.not_le.mpr f.2.1)]; rfl) hc (k _ _ _ h ⟨_, rfl⟩)⟩
theorem getL_ok (I : Inv T x σ) (h : Sat (getL σ a b) Pr) (ra : Rep T x a u) (rb : Rep T x b v) (k : ∀ r u tk, Pr r → Rep T x r u → Q u { x.s with toks := tk }) : Got T A x Q u v :=
  onInt_rep (C := Got T A x Q u) rb h fun i t h => lst_rep I (C := fun u => Got T A x Q u (.int i t)) ra h fun xs l _ vs ep q h => ⟨q.ix, by
    obtain ⟨j, hj, h⟩ := h.bindI.mk'
    obtain ⟨r, w, hw, R, p⟩ := q.q.get h
    exact getItem_list_at q.g q.len (by rw [q.q.length]; exact hj) hw (k r w x.s.toks p R)⟩
theorem getT_ok (h : Sat (getT (.tuple xs) b) Pr) (ra : Rep T x (.tuple xs) u) (rb : Rep T x b v) (k : ∀ r u tk, Pr r → Rep T x r u → Q u { x.s with toks := tk }) : Got T A x Q u v :=
  onInt_rep (C := Got T A x Q u) rb h fun i t h => ra.elim fun l ra => ra.elim fun vs ra => ra.elim fun ep ra => ra.1 ▸ ⟨⟨"tuple", _, ⟨_, ra.2.g, rfl⟩, F.slot_tuple_getitem.lookup⟩, by
    obtain ⟨j, hj, h⟩ := (show Sat ((idx xs.length i).bind fun k => xs[k]?) Pr from h).bindI.mk'
    obtain ⟨r, w, hw, R, p⟩ := ra.2.q.get h
    have f := idx_fit hj ra.2.b
    exact P.getItem_tuple (n := ep) (items := vs.toArray) ra.2.g f.1 f.2.1 (by rw [List.size_toArray, ra.2.q.length]; exact hj) (by rw [List.getElem?_toArray]; exact hw) (k r w x.s.toks p R)⟩
theorem getD_ok {ks : Keys} (h : Sat ((findKey b ks xs).bind id) Pr) (ra : Rep T x (.dict ks xs) u) (rb : Rep T x b v) (k : ∀ r u tk, Pr r → Rep T x r u → Q u { x.s with toks := tk }) : Got T A x Q u v :=
  ra.elim fun l ra => ra.elim fun us ra => ra.1 ▸ findKey_rep (C := Got T A x Q (.ref l)) ra.2.2.d ra.2.2.q rb h.bindI fun knd i f r v h1 h2 h3 h4 => ⟨⟨"dict", _, h2.typeIs, slot_dict_getitem.lookup⟩, by
    cases r with
    | none => exact h4.elim
    | some r => exact h3.elim fun w h3 => wpAny_getItem_of h1 h2 h3.1 (k r w _ h4 h3.2)⟩
theorem get_ok (I : Inv T x σ) (h : Sat (getA σ a b) Pr) (ra : Rep T x a u) (rb : Rep T x b v) (k : ∀ r u tk, Pr r → Rep T x r u → Q u { x.s with toks := tk }) : Got T A x Q u v := by
  cases a with
  | str y => exact ra.elim fun t e => e ▸ getS_ok I h rb k
  | dict ks xs => exact getD_ok h ra rb k
  | tuple xs => exact getT_ok h ra rb k
  | list xs => exact getL_ok (a := .list xs) (b := b) I h ra rb k
  | loc l => exact getL_ok (a := .loc l) (b := b) I h ra rb k
  | _ => exact onInt_rep (C := fun _ => Got T A x Q u v) rb (f := fun _ => none) (Pa := Pr) h fun _ _ h => h.elim
end

theorem RepL.pick {l : List Nat} (r : RepL T x xs vs) : RepL T x (l.filterMap (xs.toArray[·]?)) (l.filterMap (vs.toArray[·]?)) := by
  induction l with
  | nil => exact .nil
  | cons i l ih =>
    rw [List.filterMap_cons, List.filterMap_cons, List.getElem?_toArray, List.getElem?_toArray]
    cases h : xs[i]? with
    | none => rw [List.getElem?_eq_none_iff.mpr (r.length ▸ List.getElem?_eq_none_iff.mp h)]; exact ih
    | some a =>
      obtain ⟨b, w, hw, R, p⟩ := r.get (k := i) (Pa := fun b => b = a) (by rw [h]; exact rfl)
      rw [hw]
      exact .cons (p ▸ R) ih
theorem RepL.cut {lo hi : Option Int} (r : RepL T x xs vs) : RepL T x (cutL xs lo hi) (cutL vs lo hi) := by
  unfold cutL
  rw [r.length]
  exact r.pick
theorem cutL_le {lo hi : Option Int} (vs : List Value) : (cutL vs lo hi).length ≤ vs.length := slicePick_size_le vs.toArray lo hi none
theorem cutS_le {lo hi : Option Int} {y : Str} : ((Builtin.Str.strSliceIndices lo hi 1 y.length).filterMap (y.cps[·]?)).length ≤ y.length := Nat.le_trans (List.length_filterMap_le _ _) (sliceIndices_le _ _ _)

noncomputable abbrev sliceObj (l u w : Value) : Obj := { cls := .type "slice", data := .fields #[l, u, w] }
section
variable {Pr : AV × Sto → Prop} {c : Cfg} {p : Pos} {lo hi : Option Int} {sl : Addr} {vl vu vk : Value}
theorem sliceL_ok (I : Inv T x σ) (h : Sat (sliceL c p σ a lo hi) Pr) (ra : Rep T x a u) (hs : x.h.get? sl = some (sliceObj vl vu .none)) (pl : IsPart vl lo) (pu : IsPart vu hi) (k : Kv T x Pr Q) : Got T A x Q u (.ref sl) :=
  lst_rep I (C := fun u => Got T A x Q u (.ref sl)) ra h fun xs l _ vs ep q h => ⟨q.ix, wpAny_getItem_list_slice (lobj_list q.g) ⟨_, hs, rfl, rfl⟩ pl pu .none (fun h => by cases h)
    (k.list' (tk := x.s.toks) I q.q.cut (by rw [← q.q.cut.length]; exact Nat.le_trans (cutL_le vs) q.len) h) (Nat.le_trans q.len (show 2 ^ 24 ≤ sizeLine by decide))⟩
theorem rev_ok (I : Inv T x σ) (h : Sat ((lst? σ a).map fun xs => mkL c p xs.reverse σ) Pr) (ra : Rep T x a u) (hs : x.h.get? sl = some (sliceObj .none .none vk)) (pk : IsPart vk (some (-1))) (k : Kv T x Pr Q) : Got T A x Q u (.ref sl) :=
  lst_rep I (C := fun u => Got T A x Q u (.ref sl)) (f := fun xs => some (mkL c p xs.reverse σ)) (Pa := Pr) ra (by cases e : lst? σ a <;> rw [e] at h <;> exact h) fun xs l _ vs ep q h => ⟨q.ix, wpAny_getItem_list_slice (lobj_list q.g) ⟨_, hs, rfl, rfl⟩ .none .none pk (by decide)
    (by rw [PySem.W.krv_pick]; exact k.list' (tk := x.s.toks) I q.q.reverse (by rw [List.length_reverse]; exact q.b) h) (Nat.le_trans q.len (show 2 ^ 24 ≤ sizeLine by decide))⟩
theorem isPart_mk {o : Option Int} (h : IsPart vl o) : ∃ l, partValue l = vl ∧ l.map (·.1) = o := by
  cases h with
  | none => exact ⟨none, rfl, rfl⟩
  | int i t => exact ⟨some (i, t), rfl, rfl⟩
theorem slice_ok (I : Inv T x σ) (h : Sat (sliceA c p σ a lo hi) Pr) (ra : Rep T x a u) (hs : x.h.get? sl = some (sliceObj vl vu .none)) (pl : IsPart vl lo) (pu : IsPart vu hi) (k : Kv T x Pr Q) : Got T A x Q u (.ref sl) := by
  cases a with
  | str y =>
    obtain ⟨t, rfl⟩ := ra
    obtain ⟨hb, h⟩ := h.iteI
    obtain ⟨l, rfl, rfl⟩ := isPart_mk pl
    obtain ⟨l', rfl, rfl⟩ := isPart_mk pu
    refine ⟨⟨"str", _, typeIs_str _ _ _, F.slot_str_getitem.lookup⟩, wpAny_getItem_str_slice (l := l) (u := l') (st := none) ⟨_, hs, rfl, rfl⟩ rfl ?_⟩
    have h' : Pr (.str (cutS y (l.map (·.1)) (l'.map (·.1))), σ) := h
    unfold cutS at h'
    unfold sliceMade
    by_cases hw : (((none : Option (Int × Tok)).map (·.1)).getD 1 == 1 && (slicePicked y l l' none).length == y.length) = true
    · rw [if_pos (by exact hw)] at h'
      rw [if_pos hw]
      exact k.here I (a := .str y) ⟨t, rfl⟩ h'
    · rw [if_neg (by exact hw)] at h'
      rw [if_neg hw]
      exact ⟨Nat.le_trans cutS_le (Nat.le_trans hb (show 2 ^ 20 ≤ sizeLine by decide)), k.str I h'⟩
  | list xs => exact sliceL_ok (a := .list xs) (c := c) (p := p) I h ra hs pl pu k
  | loc l => exact sliceL_ok (a := .loc l) (c := c) (p := p) I h ra hs pl pu k
  | _ => exact h.elim
end
end
end Mine
namespace Mine
open PySem

/-- what a call's surroundings allow -/
structure AOk (A : Around) (k : Nat) : Prop where
  handled : A.handled = none
  depth : A.depth + k < recursionLimit
  units : A.units + 100 * k + 300 < cLine
theorem AOk.fit {A : Around} {k d : Nat} (hA : AOk A k) (h : d ≤ 300) : A.units + d < cLine :=
  Nat.lt_of_le_of_lt (Nat.le_trans (Nat.add_le_add_left h _) (Nat.add_le_add_right (Nat.le_add_right _ _) _)) hA.units

structure Rd (h : Heap) (k : Nat) (v : Value) (d : PyData) : Prop where
  r : ∃ as, PySem.Reads h v d as
  c : d.canLay0 = true
  b : d.depth ≤ k
structure Rds (h : Heap) (k : Nat) (vs : List Value) (ds : List PyData) : Prop where
  r : ∃ as, PySem.ReadsAll h vs ds as
  c : PyData.canLayAll0 ds = true
  b : PyData.depthAll ds ≤ k
section
variable {T : Tp} {A : Around} {x : St} {σ : Sto} {Q : Value → Shared → Prop} {a b : AV} {u v : Value} {xs : List AV} {vs us : List Value} {k : Nat}

theorem toPy0_rd {Pd : PyData → Prop} (h : Sat (toPy0 a) Pd) (r : Rep T x a v) : ∃ d, Rd x.h k v d ∧ Pd d := by
  cases a with
  | none => exact ⟨.none, ⟨⟨[], (show v = .none from r) ▸ Reads.none⟩, rfl, Nat.zero_le _⟩, h⟩
  | bool b => exact ⟨.bool b, ⟨⟨[], (show v = .bool b from r) ▸ Reads.bool b⟩, rfl, Nat.zero_le _⟩, h⟩
  | int i => exact r.elim fun t e => ⟨.int i, ⟨⟨[], e ▸ Reads.int i t⟩, rfl, Nat.zero_le _⟩, h⟩
  | str y => exact r.elim fun t e => ⟨.str y, ⟨⟨[], e ▸ Reads.str y t⟩, h.iteI.1, Nat.zero_le _⟩, h.iteI.2⟩
  | _ => exact h.elim
theorem mapO_rds {f : AV → Option PyData} (ih : ∀ {a v} {Pd : PyData → Prop}, Sat (f a) Pd → Rep T x a v → ∃ d, Rd x.h k v d ∧ Pd d) {Pd : List PyData → Prop} (h : Sat (mapO f xs) Pd) (r : RepL T x xs vs) : ∃ ds, Rds x.h k vs ds ∧ Pd ds := by
  induction xs generalizing vs Pd with
  | nil => exact repL_nil (C := fun vs => ∃ ds, Rds x.h k vs ds ∧ Pd ds) r ⟨[], ⟨⟨_, .nil⟩, rfl, Nat.zero_le _⟩, h⟩
  | cons a xs ihx => exact repL_cons (C := fun vs => ∃ ds, Rds x.h k vs ds ∧ Pd ds) r fun u us q r => (ih h.bindI q).elim fun d hd => (ihx hd.2.bindI r).elim fun ds hds =>
      ⟨d :: ds, ⟨hd.1.r.elim fun as h1 => hds.1.r.elim fun bs h2 => ⟨_, .cons h1 h2⟩, Bool.and_eq_true_iff.mpr ⟨hd.1.c, hds.1.c⟩, Nat.max_le.mpr ⟨hd.1.b, hds.1.b⟩⟩, hds.2⟩
theorem SeqAt.rdL {c : Col} {l : Addr} {len ep : Nat} {R : List Value → Prop} {ds : List PyData} (q : SeqAt x lobj c l len R vs ep) (r : Rds x.h k vs ds) : Rd x.h (k + 1) (.ref l) (.list ds) :=
  ⟨r.r.elim fun _ h => ⟨_, .list q.g rfl rfl h⟩, r.c, Nat.succ_le_succ r.b⟩
theorem toPy_rd {Pd : PyData → Prop} (h : Sat (toPy k a) Pd) (r : Rep T x a v) : ∃ d, Rd x.h k v d ∧ Pd d := by
  induction k generalizing a v Pd with
  | zero => exact toPy0_rd h r
  | succ k ih =>
    cases a with
    | list xs => exact r.elim fun l r => r.elim fun vs r => r.elim fun ep r => (mapO_rds ih (xs := xs) (f := toPy k) (Sat.bindI (f := fun ds => some (PyData.list ds)) (Pb := Pd) h) r.2.q).elim fun ds hd => ⟨PyData.list ds, r.1 ▸ r.2.rdL hd.1, hd.2⟩
    | tuple xs => exact r.elim fun l r => r.elim fun vs r => r.elim fun ep r => (mapO_rds ih (xs := xs) (f := toPy k) (Sat.bindI (f := fun ds => some (PyData.tuple ds)) (Pb := Pd) h) r.2.q).elim fun ds hd => ⟨PyData.tuple ds, r.1 ▸ ⟨hd.1.r.elim fun as h => ⟨as, Reads.tuple r.2.g rfl rfl h⟩, hd.1.c, Nat.succ_le_succ hd.1.b⟩, hd.2⟩
    | none => exact toPy0_rd (a := .none) h r
    | bool b => exact toPy0_rd (a := .bool b) h r
    | int i => exact toPy0_rd (a := .int i) h r
    | str y => exact toPy0_rd (a := .str y) h r
    | _ => exact h.elim
theorem toPys_rds {Pd : List PyData → Prop} (h : Sat (toPys k xs) Pd) (r : RepL T x xs vs) : ∃ ds, Rds x.h k vs ds ∧ Pd ds := mapO_rds toPy_rd h r
theorem shallow_rd (I : Inv T x σ) {Pd : PyData → Prop} (h : Sat (toPy 8 (shallow σ a)) Pd) (r : Rep T x a v) : ∃ d, Rd x.h 8 v d ∧ Pd d := by
  unfold shallow at h
  split at h
  · split at h
    · rename_i xs hg
      exact r.1 ▸ (I.objs _ _ hg).elim fun vs q => q.elim fun ep q => (toPys_rds (k := 7) (xs := xs) (Sat.bindI (f := fun ds => some (PyData.list ds)) (Pb := Pd) h) q.q).elim fun ds hd => ⟨_, q.rdL hd.1, hd.2⟩
    · exact toPy_rd h r
  · exact toPy_rd h r
theorem Rd.shaped {d : PyData} (r : Rd x.h 8 v d) : SeqAt.shaped d = true := Bool.and_eq_true_iff.mpr ⟨r.c, decide_eq_true (Nat.le_trans r.b (by decide))⟩

theorem eq_ok (hA : AOk A k) (I : Inv T x σ) {Pb : Bool → Prop} {Q : Value → Shared → Prop} (h : Sat (eqA σ a b) Pb) (ra : Rep T x a u) (rb : Rep T x b v) (kt : ∀ b, Pb b → Q (.bool b) x.s) : Wp T A (compareOp .Eq u v) Q x := by
  have gen (h : Sat (eqG σ a b) Pb) : Wp T A (compareOp .Eq u v) Q x :=
    (shallow_rd I h.bindI ra).elim fun d hd => (shallow_rd I hd.2.bindI rb).elim fun d' hd' => hd.1.r.elim fun as h1 => hd'.1.r.elim fun bs h2 => SeqAt.compareEq_shaped h1 h2 hd.1.shaped hd'.1.shaped (hA.fit (by decide)) (kt _ hd'.2)
  unfold eqA at h
  split at h
  · split at h
    · exact ra.elim fun t e => rb.elim fun t' e' => e ▸ e' ▸ PyProof.Rows.eq_str (kt _ h)
    · exact gen h
  · exact gen h
theorem ne_ok (hA : AOk A k) (I : Inv T x σ) {Pb : Bool → Prop} {Q : Value → Shared → Prop} (h : Sat (eqA σ a b) Pb) (ra : Rep T x a u) (rb : Rep T x b v) (kt : ∀ b, Pb b → Q (.bool !b) x.s) : Wp T A (compareOp .NotEq u v) Q x := by
  have gen (h : Sat (eqG σ a b) Pb) : Wp T A (compareOp .NotEq u v) Q x :=
    (shallow_rd I h.bindI ra).elim fun d hd => (shallow_rd I hd.2.bindI rb).elim fun d' hd' => hd.1.r.elim fun as h1 => hd'.1.r.elim fun bs h2 => SeqAt.compareNe_shaped h1 h2 hd.1.shaped hd'.1.shaped (hA.fit (by decide)) (kt _ hd'.2)
  unfold eqA at h
  split at h
  · split at h
    · exact ra.elim fun t e => rb.elim fun t' e' => e ▸ e' ▸ PyProof.Rows.ne_str (kt _ h)
    · exact gen h
  · exact gen h

theorem subStr_one {y z : Str} {c : Bool} (e : subStr y z = some c) : (!(Builtin.Str.occurrences z y 0 z.length 1).isEmpty) = c := by
  obtain ⟨⟨l⟩⟩ := y
  unfold subStr at e
  dsimp only at e
  split at e
  · rename_i _ c
    simp only [Option.some.injEq] at e
    rw [StrLaws.found_one, ← e]
    simp
  · cases e
/-- what is in a list -/
theorem mem_rd (I : Inv T x σ) {Pb : Bool → Prop} {C : Prop} (h : Sat (memA σ a b) Pb) (ra : Rep T x a u) (rb : Rep T x b v)
    (kt : ∀ ds d as bs, PySem.Reads x.h v (.list ds) as → PySem.Reads x.h u d bs → PyData.canLayAll0 ds = true → d.canLay0 = true → d.depth ≤ 8 → Pb (ds.any fun y => PyData.eqv y d) → C) : C :=
  lst_rep I (C := fun v => (∀ ds d as bs, PySem.Reads x.h v (.list ds) as → PySem.Reads x.h u d bs → PyData.canLayAll0 ds = true → d.canLay0 = true → d.depth ≤ 8 → Pb (ds.any fun y => PyData.eqv y d) → C) → C) rb h
    (fun _ _ _ _ _ q h kt => (toPys_rds h.bindI q.q).elim fun ds hd => (shallow_rd I hd.2.bindI ra).elim fun d hd' => hd.1.r.elim fun as h1 => hd'.1.r.elim fun bs h2 => kt ds d _ bs (.list q.g rfl rfl h1) h2 hd.1.c hd'.1.c hd'.1.b hd'.2) kt
theorem fit_min (hA : AOk A k) {d e : Nat} (h : e ≤ 8) : A.units + 1 + min d e < cLine := by
  rw [Nat.add_assoc]
  exact hA.fit (Nat.le_trans (Nat.add_le_add_left (Nat.le_trans (Nat.min_le_right _ _) h) 1) (by decide))
theorem in_ok (hA : AOk A k) (I : Inv T x σ) {Pb : Bool → Prop} {Q : Value → Shared → Prop} (h : Sat (inA σ a b) Pb) (ra : Rep T x a u) (rb : Rep T x b v) (kt : ∀ b, Pb b → Q (.bool b) x.s) : Wp T A (compareOp .In u v) Q x := by
  unfold inA at h
  split at h
  · rename_i y
    exact rb.elim fun t' e' => e' ▸ onStr_rep (C := fun u => Wp T A (compareOp .In u (.str y t')) Q x) ra h fun z t h => h.mk'.elim fun c hc => P.in_str (subStr_one hc.1 ▸ kt _ hc.2)
  · exact mem_rd I h ra rb fun ds d as bs h1 h2 h3 h4 h5 h6 => SeqAt.in_list_reads h1 h2 h3 h4 (fit_min hA h5) (kt _ h6)
theorem nin_ok (hA : AOk A k) (I : Inv T x σ) {Pb : Bool → Prop} {Q : Value → Shared → Prop} (h : Sat (inA σ a b) Pb) (ra : Rep T x a u) (rb : Rep T x b v) (kt : ∀ b, Pb b → Q (.bool !b) x.s) : Wp T A (compareOp .NotIn u v) Q x := by
  unfold inA at h
  split at h
  · rename_i y
    exact rb.elim fun t' e' => e' ▸ onStr_rep (C := fun u => Wp T A (compareOp .NotIn u (.str y t')) Q x) ra h fun z t h => h.mk'.elim fun c hc => P.notIn_str (subStr_one hc.1 ▸ kt _ hc.2)
  · exact mem_rd I h ra rb fun ds d as bs h1 h2 h3 h4 h5 h6 => SeqAt.notIn_list_reads h1 h2 h3 h4 (fit_min hA h5) (kt _ h6)
theorem is_ok {Pb : Bool → Prop} {Q : Value → Shared → Prop} (h : Sat (isA a) Pb) (ra : Rep T x a u) (kt : ∀ b, Pb b → Q (.bool b) x.s) : Wp T A (compareOp .Is u .none) Q x := by
  cases a with
  | none => rw [show u = .none from ra]; exact is_none (kt _ h)
  | str y => exact ra.elim fun t e => e ▸ is_none (kt _ h)
  | _ => exact h.elim
theorem cmp_ok (hA : AOk A k) (I : Inv T x σ) {op : CmpOp} {Pb : Bool → Prop} {Q : Value → Shared → Prop} (h : Sat (cmpA σ op a b) Pb) (ra : Rep T x a u) (rb : Rep T x b v) (kt : ∀ b, Pb b → Q (.bool b) x.s) : Wp T A (compareOp op u v) Q x := by
  cases op with
  | Eq => exact eq_ok hA I h ra rb kt
  | NotEq => exact ne_ok hA I (Sat.bindI (f := fun b => some !b) h) ra rb fun _ => kt _
  | Lt => exact onInt_rep (C := fun u => Wp T A (compareOp .Lt u v) Q x) ra h fun i t h => onInt_rep (C := fun v => Wp T A (compareOp .Lt (.int i t) v) Q x) rb h fun j t' h => P.lt_int (kt _ h)
  | Gt => exact onInt_rep (C := fun u => Wp T A (compareOp .Gt u v) Q x) ra h fun i t h => onInt_rep (C := fun v => Wp T A (compareOp .Gt (.int i t) v) Q x) rb h fun j t' h => P.gt_int (kt _ h)
  | GtE => exact onInt_rep (C := fun u => Wp T A (compareOp .GtE u v) Q x) ra h fun i t h => onInt_rep (C := fun v => Wp T A (compareOp .GtE (.int i t) v) Q x) rb h fun j t' h => P.ge_int (kt _ h)
  | Is =>
    cases b with
    | none => rw [show v = .none from rb]; exact is_ok h ra kt
    | _ => exact h.elim
  | In => exact in_ok hA I h ra rb kt
  | NotIn => exact nin_ok hA I (Sat.bindI (f := fun b => some !b) h) ra rb fun _ => kt _
  | _ => exact h.elim
end
end Mine
namespace Mine
open PySem

theorem rangeSize_nat (i j : Int) : Builtin.Range.rangeSize i j 1 = ((j - i).toNat : Nat) := by
  rw [PySem.rangeSize_one]
  by_cases h : i < j
  · rw [if_pos h, Int.toNat_of_nonneg (Int.sub_nonneg_of_le (Int.le_of_lt h))]
  · rw [if_neg h, Int.toNat_of_nonpos (Int.sub_nonpos_of_le (Int.not_lt.mp h))]; rfl
theorem range_small {i j : Int} (h : 0 ≤ i ∧ i < 2 ^ 40 ∧ -(2 ^ 40) < j ∧ j < 2 ^ 40) : Builtin.Range.small i j 1 = true :=
  small_one (Int.le_trans (by decide) h.1) (Int.lt_trans h.2.1 (by decide)) (Int.le_of_lt (Int.lt_trans (by decide) h.2.2.1)) (Int.lt_trans h.2.2.2 (by decide))

section
variable {T : Tp} {A : Around} {x : St} {σ : Sto} {Q : Value → Shared → Prop} {Pr : AV × Sto → Prop} {a b : AV} {u v : Value} {xs : List AV} {vs us : List Value} {args : List AV} {k : Nat} {c : Cfg} {p : Pos}

theorem repL_of_items (hl : vs.length = xs.length) (hq : ∀ (j : Nat) (a : AV) (v : Value), xs[j]? = some a → vs[j]? = some v → Rep T x a v) : RepL T x xs vs := by
  induction xs generalizing vs with
  | nil => exact List.eq_nil_of_length_eq_zero hl
  | cons a xs ih =>
    cases vs with
    | nil => exact Nat.noConfusion hl
    | cons v vs => exact .cons (hq 0 a v rfl rfl) (ih (Nat.succ.inj hl) fun j a v h1 h2 => hq (j + 1) a v h1 h2)
theorem items_rep {P : Nat → Value → Prop} {acc : Array Value} {n : Nat} (h : ItemsOf P acc n) (hl : xs.length = n) (hq : ∀ (j : Nat) (a : AV) (v : Value), xs[j]? = some a → P j v → Rep T x a v) : RepL T x xs acc.toList :=
  repL_of_items (h.1.trans hl.symm) fun j a v h1 h2 => hq j a v h1 (h.2 j v (Array.getElem?_toList ▸ h2))

theorem lenL_ok (I : Inv T x σ) (h : Sat (lenL σ a) Pr) (r : Rep T x a u) (kt : Kv T x Pr Q) : Wp T A (call (.builtin "len") [u]) Q x :=
  lst_rep I (C := fun u => Wp T A (call (.builtin "len") [u]) Q x) r h fun xs l _ vs ep q h =>
    Calls.call_len_list (lobj_list q.g) (Int.lt_of_le_of_lt (Int.ofNat_le.mpr q.len) (show ((2 ^ 24 : Nat) : Int) < 2 ^ 63 by decide)) (by rw [List.size_toArray, q.q.length]; exact kt.int I h)
theorem len_ok (I : Inv T x σ) (h : Sat (lenA σ a) Pr) (r : Rep T x a u) (kt : Kv T x Pr Q) : Wp T A (call (.builtin "len") [u]) Q x := by
  cases a with
  | str y => exact r.elim fun t e => e ▸ P.len_str (Int.not_le.mpr (Int.lt_trans (Int.ofNat_lt.mpr h.iteI.1) (by decide))) (kt.int I h.iteI.2)
  | list xs => exact lenL_ok (a := .list xs) I h r kt
  | loc l => exact lenL_ok (a := .loc l) I h r kt
  | _ => exact h.elim

/-- a range is made -/
theorem Kn.range (I : Inv T x σ) (kt : Kv T x Pr Q) {i j : Int} {t w q tk : Tok} (b : 0 ≤ i ∧ i < 2 ^ 40 ∧ -(2 ^ 40) < j ∧ j < 2 ^ 40) (h : Pr (.range i j, σ)) :
    Q (.ref x.h.objs.size) { x.s with heap := x.h.push { cls := .type "range", data := .fields #[.int i t, .int j w, .int 1 q] }, toks := tk } :=
  kt _ _ _ h ⟨Ext.push.step, (Ext.push (c := .fz)).inv I rfl, _, _, _, _, rfl, upc_self, b, IsRange.new _ _ _ _ _ _ _⟩
theorem range_ok (I : Inv T x σ) (h : Sat (rangeA args σ) Pr) (r : RepL T x args vs) (kt : Kv T x Pr Q) : Wp T A (call (.type "range") vs) Q x := by
  rcases args with _ | ⟨a, _ | ⟨b, as⟩⟩
  · exact h.elim
  · exact repL_cons (C := fun vs => Wp T A (call (.type "range") vs) Q x) r fun u us r q => repL_nil (C := fun us => Wp T A (call (.type "range") (u :: us)) Q x) q
      (onInt_rep (C := fun u => Wp T A (call (.type "range") [u]) Q x) r h fun i t h => call_range_1 (kt.range I ⟨Int.le_refl _, by decide, h.iteI.1.1, h.iteI.1.2⟩ h.iteI.2))
  · exact on2_rep (C := fun vs => Wp T A (call (.type "range") vs) Q x) r h fun a u b v ra rb h => onInt_rep (C := fun u => Wp T A (call (.type "range") [u, v]) Q x) ra h fun i t h =>
      onInt_rep (C := fun v => Wp T A (call (.type "range") [.int i t, v]) Q x) rb h fun j t' h => call_range_2 (kt.range I h.iteI.1 h.iteI.2)

theorem list_ok (hA : AOk A k) (I : Inv T x σ) (h : Sat (listA c p a σ) Pr) (r : Rep T x a u) (kt : Kv T x Pr Q) : Wp T A (call (.type "list") [u]) Q x := by
  cases a with
  | range i j =>
    obtain ⟨l, t, w, q, rfl, hr⟩ := r
    obtain ⟨hb, h⟩ := h.iteI
    have hn : (j - i).toNat ≤ 2 ^ 20 := by first | lia | omega
    refine call_list_range hA.handled hr.g (range_small hr.b) (rangeSize_nat i j) (le20 hn) fun h' tk acc c' hk hg hacc => kt.list I hk (get?_size _) (vs := acc.toList) hg (items_rep hacc (by rw [List.length_map, List.length_range]) fun m a v h1 h2 => ?_) (by rw [List.length_map, List.length_range]; exact le20 hn) h
    obtain ⟨t, rfl⟩ := h2
    rw [List.getElem?_map] at h1
    obtain ⟨n, hn, rfl⟩ := Option.map_eq_some_iff.mp h1
    obtain ⟨_, e⟩ := List.getElem?_eq_some_iff.mp hn
    rw [List.getElem_range] at e
    subst e
    exact ⟨t, by rw [Int.mul_one]⟩
  | str y =>
    obtain ⟨t, rfl⟩ := r
    obtain ⟨hb, h⟩ := h.iteI
    refine call_list_str (hn := Nat.le_trans hb (show 2 ^ 20 ≤ sizeLine by decide)) hA.handled y t fun h' tk acc c' hk hg hacc => kt.list I hk (get?_size _) (vs := acc.toList) hg (items_rep hacc (by rw [List.length_map]; rfl) fun m a v h1 h2 => ?_) (by rw [List.length_map]; exact le20 hb) h
    obtain ⟨ch, w, hc, rfl⟩ := h2
    rw [List.getElem?_map, Array.getElem?_toList, hc] at h1
    cases h1
    exact ⟨w, rfl⟩
  | _ => exact h.elim

theorem str_ok (I : Inv T x σ) (h : Sat (onInt a fun i => if 0 ≤ i ∧ i < 10 ^ 9 then some (.str (Str.ofString (toString i)), σ) else none) Pr) (r : Rep T x a u) (kt : Kv T x Pr Q) : Wp T A (call (.type "str") [u]) Q x :=
  onInt_rep (C := fun u => Wp T A (call (.type "str") [u]) Q x) r h fun i t h => by
    refine P.str_of_int ?_ (kt.str I h.iteI.2)
    by_cases h0 : i.natAbs = 0
    · rw [h0]; decide
    · have := h.iteI.1
      exact Nat.lt_trans ((Nat.log2_lt h0).mpr (show i.natAbs < 2 ^ 64 by first | lia | omega)) (by decide)
theorem int_ok (I : Inv T x σ) (h : Sat (onStr a fun s => if digits? s ∧ s.length < 100 then some (.int (intOf s), σ) else none) Pr) (r : Rep T x a u) (kt : Kv T x Pr Q) : Wp T A (call (.type "int") [u]) Q x :=
  onStr_rep (C := fun u => Wp T A (call (.type "int") [u]) Q x) r h fun y t h => by
    obtain ⟨⟨h1, h2⟩, h⟩ := h.iteI
    obtain ⟨h3, h4⟩ := Bool.and_eq_true_iff.mp h1
    refine PySem.W.KIN.call_text (n := intOf y) (intText_digits (fun c hc => ?_) (fun hn => ?_) (Nat.le_trans (Nat.le_of_lt h2) (by decide))) (Nat.le_trans (Nat.le_of_lt h2) (by decide)) (kt.int I h)
    · have := Bool.and_eq_true_iff.mp (List.all_eq_true.mp h4 c hc)
      exact ⟨of_decide_eq_true this.1, of_decide_eq_true this.2⟩
    · have e : y.length = 0 := (Array.length_toList (xs := y.cps)).symm.trans (congrArg List.length hn)
      rw [e] at h3
      cases h3
end

section
variable {T : Tp} {A : Around} {x : St} {σ : Sto} {Q : Value → Shared → Prop} {Pr : AV × Sto → Prop} {vs : List Value} {args : List AV} {k : Nat} {c : Cfg} {p : Pos}
theorem one_ok {f : Value} {g : AV → Option (AV × Sto)} (h : Sat (on1 args g) Pr) (r : RepL T x args vs) (kt : ∀ a u, Sat (g a) Pr → Rep T x a u → Wp T A (call f [u]) Q x) : Wp T A (call f vs) Q x :=
  on1_rep (C := fun vs => Wp T A (call f vs) Q x) r h fun a u r h => kt a u h r
theorem callB_ok (hA : AOk A k) (I : Inv T x σ) {n : Bi} (h : Sat (callB c p n args σ) Pr) (r : RepL T x args vs) (kt : Kv T x Pr Q) : Wp T A (call (biV n) vs) Q x := by
  cases n with
  | len => exact one_ok h r fun a u h r => len_ok I h r kt
  | range => exact range_ok I h r kt
  | list => exact one_ok h r fun a u h r => list_ok hA I h r kt
  | str => exact one_ok h r fun a u h r => str_ok I h r kt
  | int => exact one_ok h r fun a u h r => int_ok I h r kt
  | _ => exact h.elim
end
end Mine
namespace Mine
open PySem

theorem append_list (a b : Str) : (a ++ b).cps.toList = a.cps.toList ++ b.cps.toList := Array.toList_append
theorem join_flat (ts : List Str) : (Str.join ⟨#[]⟩ ts).cps.toList = (ts.map (·.cps.toList)).flatten := by
  induction ts with
  | nil => rfl
  | cons y r ih =>
    cases r with
    | nil => exact (List.append_nil _).symm
    | cons z r =>
      show ((y ++ ⟨#[]⟩ ++ Str.join ⟨#[]⟩ (z :: r) : Str)).cps.toList = _
      rw [append_list, append_list, ih]
      exact congrArg (· ++ _) (List.append_nil _)
theorem flat_length (ts : List Str) : ((ts.map (·.cps.toList)).flatten).length = (ts.map (·.length)).sum := by
  induction ts with
  | nil => rfl
  | cons y r ih => exact List.length_append.trans (congrArg (_ + ·) ih)
theorem count_list (c : Nat) (l : List Nat) : PyProof.Rows.cnt c l = ((l.count c : Nat) : Int) := by
  induction l with
  | nil => rfl
  | cons n l ih =>
    rw [PyProof.Rows.cnt_cons, ih, List.count_cons]
    by_cases h : n = c
    · rw [if_pos h, if_pos (beq_iff_eq.mpr h)]; exact Int.add_comm _ _
    · rw [if_neg h, if_neg fun e => h (beq_iff_eq.mp e)]; exact Int.zero_add _
/-- the callee of a method -/
noncomputable def mthV (T : Tp) : Mth → Option Value
  | .join => some (.builtin "str.join")
  | .split => some (.builtin "str.split")
  | .count => some (.builtin "str.count")
  | .get => some (.builtin "dict.get")
  | .append => some (.builtin "list.append")
  | .pop => some (.builtin "list.pop")
  | .lex n => T.fnV n

/-- the signs of texts -/
noncomputable def flatS (l : List (Str × Tok)) : List Nat := ((l.map (·.1)).map (·.cps.toList)).flatten
section
variable {T : Tp} {A : Around} {x : St} {σ : Sto} {Q : Value → Shared → Prop} {Pr : AV × Sto → Prop} {a b : AV} {u v : Value} {xs : List AV} {vs us : List Value} {args : List AV} {k : Nat} {c : Cfg} {p : Pos}

theorem RepL.strs {Pa : List Nat → Prop} (r : RepL T x xs vs) (h : Sat (joinA xs) Pa) : ∃ l : List (Str × Tok), vs = strValues l ∧ Pa (flatS l) := by
  induction xs generalizing vs Pa with
  | nil => exact repL_nil (C := fun vs => ∃ l : List (Str × Tok), vs = strValues l ∧ Pa (flatS l)) r ⟨[], rfl, h⟩
  | cons a xs ih =>
    exact repL_cons (C := fun vs => ∃ l : List (Str × Tok), vs = strValues l ∧ Pa (flatS l)) r fun u us q r =>
      onStr_rep (C := fun u => ∃ l : List (Str × Tok), u :: us = strValues l ∧ Pa (flatS l)) q h fun i t h => (ih r h.bindI).elim fun l e => ⟨(i, t) :: l, congrArg (_ :: ·) e.1, e.2⟩
theorem strsMapped : ∀ (l : List (Str × Tok)), RepL T x ((l.map (·.1)).map .str) (strValues l)
  | [] => rfl
  | q :: l => ⟨_, _, rfl, ⟨q.2, rfl⟩, strsMapped l⟩

theorem join_ok (I : Inv T x σ) {sep : Str} {t : Tok} (h : Sat ((lst? σ a).bind fun xs => (joinA xs).bind fun r => if sep.length = 0 ∧ r.length ≤ 2 ^ 20 then some (.str ⟨r.toArray⟩, σ) else none) Pr) (r : Rep T x a u) (kt : Kv T x Pr Q) :
    Wp T A (call (.builtin "str.join") [.str sep t, u]) Q x :=
  lst_rep I (C := fun u => Wp T A (call (.builtin "str.join") [.str sep t, u]) Q x) r h fun xs l _ vs ep q h => by
    obtain ⟨g, rfl, h⟩ := q.q.strs h.bindI
    obtain ⟨⟨h1, h2⟩, h'⟩ := h.iteI
    have hsep : sep = ⟨#[]⟩ := congrArg Str.mk (Array.eq_empty_of_size_eq_zero h1)
    subst hsep
    refine SC.join (texts := g.map (·.1)) (lobj_list q.g) rfl ?_ fun t' k => ?_
    · unfold JoinOk
      rw [StrLaws.joinTotal, Bool.not_eq_true']
      refine decide_eq_false (Nat.not_lt.mpr ?_)
      exact Nat.le_trans (Nat.le_trans (Nat.le_of_eq (flat_length _).symm) h2) (show 2 ^ 20 ≤ sizeLine by decide)
    · have ej : Txt.join ⟨#[]⟩ (g.map (·.1)) = ⟨(flatS g).toArray⟩ := by
        unfold Txt.join
        unfold flatS
        rw [StrLaws.glued_eq_join, ← join_flat]
      rw [ej]
      exact kt.str I h'

theorem splitL {y z : Str} {l : List (Str × Tok)} (I : Inv T x σ) (kt : Kv T x Pr Q) (h : Pr (mkL c p ((Txt.split y z).map .str) σ)) (hl : (Txt.split y z).length ≤ 2 ^ 20) (tk : Nat) (e : l.map (·.1) = Txt.split y z) :
    Q (.ref x.h.objs.size) { x.s with heap := x.h.push (lobj (strValues l) 0), toks := tk } :=
  kt.list' I (xs := (l.map (·.1)).map .str) (strsMapped l) (by rw [List.length_map, e]; exact le20 hl) (e.symm ▸ h)
theorem split_ok (I : Inv T x σ) {y z : Str} {t w : Tok} (hz : z.length ≠ 0) (hy : y.length ≤ 2 ^ 20) (hl : (Txt.split y z).length ≤ 2 ^ 20) (h : Pr (mkL c p ((Txt.split y z).map .str) σ)) (kt : Kv T x Pr Q) :
    Wp T A (call (.builtin "str.split") [.str y t, .str z w]) Q x := by
  have hz' : (z.length == 0) = false := beq_false_of_ne hz
  have fin := fun (l : List (Str × Tok)) => splitL (c := c) (p := p) (y := y) (z := z) (l := l) I kt h hl
  cases h1 : (decide (y.length < z.length) || decide (Builtin.Str.strKind y < Builtin.Str.strKind z))
  · cases hf : (Builtin.Str.occurrences y z 0 y.length (y.length + 1)).isEmpty
    · have e : Txt.split y z = Builtin.Str.partsBetween y (Builtin.Str.occurrences y z 0 y.length (y.length + 1)) z.length := by
        unfold Txt.split
        rw [h1, hf]; rfl
      refine call_meets F.slot_str_split (typeIs_str _ _ _) F.entry_str_split (F.args_str_split_2 _ _) (meets_str_split_sep y z t w h1 hz' hf (Nat.le_trans hy (by decide)) (by rw [← e]; exact Nat.le_trans hl (by decide))) ?_
      show Q (.ref x.h.objs.size) { x.s with toks := _, heap := x.h.push { cls := .type "list", data := .seq (strsFrom x.s.toks (Builtin.Str.partsBetween y (Builtin.Str.occurrences y z 0 y.length (y.length + 1)) z.length)).toArray } }
      rw [strsFrom_eq]
      exact fin (numbered x.s.toks _) _ ((numbered_texts _ _).trans e.symm)
    · refine call_meets F.slot_str_split (typeIs_str _ _ _) F.entry_str_split (F.args_str_split_2 _ _) (meets_str_split_not_found y z t w h1 hz' hf) ?_
      exact fin [(y, t)] x.s.toks (by unfold Txt.split; rw [h1, hf]; rfl)
  · refine call_meets F.slot_str_split (typeIs_str _ _ _) F.entry_str_split (F.args_str_split_2 _ _) (meets_str_split_cannot_occur y z t w h1) ?_
    exact fin [(y, t)] x.s.toks (by unfold Txt.split; rw [h1]; rfl)

theorem no_sys (hb : T.h₀.get? sysModules ≠ none) (I : Inv T x σ) {l : Addr} {n : Nat} (h : x.κ l = .ob n) : (l == sysModules) = false := by
  refine beq_false_of_ne fun e => ?_
  cases g : T.h₀.get? sysModules with
  | none => exact hb g
  | some o => exact Col.noConfusion ((e ▸ h).symm.trans (I.base _ _ g).2)
/-- a dict's items, frozen or at a location -/
theorem dct_rep (I : Inv T x σ) (hb : T.h₀.get? sysModules ≠ none) {α : Type} {Pa : α → Prop} {f : Keys × List AV → Option α} {C : Value → Prop} (R : Rep T x a u) (h : Sat ((dct? σ a).bind f) Pa)
    (k : ∀ ks xs l c us, (l == sysModules) = false → DictAt T x c l ks (RepL T x xs) us → Sat (f (ks, xs)) Pa → C (.ref l)) : C u := by
  cases a with
  | dict ks xs => exact R.elim fun l R => R.elim fun us R => R.1 ▸ k ks xs l _ us R.2.1 R.2.2 h
  | loc l =>
    obtain ⟨o, e, h⟩ := h.bindI.mk'
    have q := I.objs l
    revert e q
    show (match σ.get l with | some (.dict ks vs) => some (ks, vs) | _ => none) = some o → _ → _
    rcases σ.get l with _ | (_ | ⟨ks, xs⟩ | _ | _)
    · exact fun e => by cases e
    · exact fun e => by cases e
    · exact fun e q => (q _ rfl).elim fun us q => R.1 ▸ k ks xs _ _ us (no_sys hb I q.c) q (by cases e; exact h)
    · exact fun e => by cases e
    · exact fun e => by cases e
  | _ => exact h.elim

theorem getMethod_dict {l : Addr} {ks : Keys} (D : DRep T x.h l ks us) {pl : Sem Bool} {Q : Value × List Value → Shared → Prop} (h : Q (.builtin "dict.get", [.ref l]) x.s) :
    Wp T A (getMethod (.ref l) "get" pl) Q x :=
  D.some.elim fun o D => getMethod_builtin ⟨o, D.1, D.2.2⟩ F.plainAttrs_dict F.slot_dict_get F.type_dict_get (fun b e => by injection e with e; subst e; exact ⟨o, D.1, D.2.1⟩) h

section
variable {Pm : Mth → Prop} {n : Str} {pl : Sem Bool} {Q : Value × List Value → Shared → Prop}
theorem strM_ok {y : Str} {t : Tok} (h : Sat (strM n) Pm) (kt : ∀ mt f, Pm mt → mthV T mt = some f → Q (f, [.str y t]) x.s) : Wp T A (getMethod (.str y t) n pl) Q x := by
  rcases h.iteE with ⟨rfl, h⟩ | h
  · have hq := kt _ _ h rfl; with_reducible exact GM.join hq
  rcases h.iteE with ⟨rfl, h⟩ | h
  · have hq := kt _ _ h rfl; with_reducible exact GM.split hq
  rcases h.iteE with ⟨rfl, h⟩ | h
  · have hq := kt _ _ h rfl; with_reducible exact GM.count hq
  exact h.elim
/-- the method of a value -/
theorem resM_ok (I : Inv T x σ) (h : Sat (resM σ a n) Pm) (r : Rep T x a v)
    (hlex : ∀ l ln lf push, σ.get l = some (.lexer ln lf push) → v = .ref (x.γ l) → (n = "get_token" ∨ n = "push_token" ∨ n = "_read_char") → Pm (.lex n) → Wp T A (getMethod v n pl) Q x)
    (kt : ∀ mt f, Pm mt → mthV T mt = some f → Q (f, [v]) x.s) : Wp T A (getMethod v n pl) Q x := by
  cases a with
  | str y =>
    obtain ⟨t, rfl⟩ := r
    have h2 : Sat (strM n) Pm := by delta resM at h; exact h
    with_reducible exact strM_ok h2 kt
  | dict ks xs =>
    obtain ⟨rfl, h⟩ := h.iteI
    exact r.elim fun l r => r.elim fun us r => by obtain ⟨rfl, r'⟩ := r; exact getMethod_dict r'.2.d (kt _ _ h rfl)
  | loc l =>
    obtain ⟨o, e, h⟩ := h.bindI.mk'
    obtain ⟨rfl, hl⟩ := r
    have q := I.objs l o e
    cases o with
    | list xs =>
      obtain ⟨vs, ep, q⟩ := q
      rcases h.iteE with ⟨rfl, h⟩ | h
      · exact Calls.getMethod_list_append q.g rfl rfl (kt _ _ h rfl)
      · obtain ⟨rfl, h⟩ := h.iteI
        exact PyProof.Rows.getMethod_list_of F.slot_list_pop F.type_list_pop (lobj_list q.g) ⟨_, q.g, rfl⟩ (kt _ _ h rfl)
    | dict ks xs =>
      obtain ⟨rfl, h⟩ := h.iteI
      exact q.elim fun us q => getMethod_dict q.d (kt _ _ h rfl)
    | lexer ln lf push => exact hlex _ _ _ _ e rfl h.iteI.1 h.iteI.2
    | tab b => exact h.elim
  | _ => exact h.elim
end

/-- a located list is rewritten -/
theorem Kn.upd (I : Inv T x σ) (kt : Kv T x Pr Q) {l : Nat} {ys : List AV} {ep ep' len : Nat} {R : List Value → Prop} {h' : Heap} {tk : Nat} {r : AV} (hl : l < x.n) (q : SeqAt x lobj (.ob l) (x.γ l) len R vs ep) (hs : Heap.SameBut (x.γ l) x.h h')
    (g : h'.get? (x.γ l) = some (lobj us ep')) (b : ys.length ≤ 2 ^ 24) (R : RepL T x ys us) (rr : Rep T x r u) (h : Pr (r, σ.upd l (.list ys))) : Q u { x.s with heap := h', toks := tk } := by
  have M : But (fun a => x.κ a = .ob l) x (x.to h' tk) := .upd fun a o ne e => (hs.2 a fun e' => ne (e' ▸ q.c)).trans e
  have S : Step Pe x (x.to h' tk) := M.step (fun a e => congrArg Col.isOb e) fun a o _ e => (Classical.em (a = x.γ l)).elim (fun e => ⟨_, e ▸ g⟩) fun ne => ⟨o, (hs.2 a ne).trans e⟩
  exact kt _ _ (x.to h' tk) h ⟨S, upd_inv M I hl rfl ⟨us, ep', q.c, g, b, R.step S⟩, rr.step S⟩

theorem append_ok (I : Inv T x σ) {l : Nat} (hl : l < x.n) (h : Sat (onL σ.get l fun xs => if xs.length < 2 ^ 20 then some (.none, σ.upd l (.list (xs ++ [a]))) else none) Pr) (r : Rep T x a u) (kt : Kv T x Pr Q) :
    Wp T A (call (.builtin "list.append") [.ref (x.γ l), u]) Q x :=
  onL_rep I h fun xs vs ep hg q h => by
    obtain ⟨hb, h⟩ := h.iteI
    have hv : (vs ++ [u]).length ≤ 2 ^ 20 := by rw [List.length_append, q.q.length]; exact hb
    refine call_meets F.slot_list_append ⟨_, q.g, rfl⟩ F.entry_list_append (F.args_list_append_2 _ _) (list_append (x.γ l) vs.toArray ep u ?_) ⟨q.g, ?_⟩
    · rw [List.size_toArray, q.q.length]
      exact Nat.le_trans (Nat.le_of_lt hb) (show 2 ^ 20 ≤ sizeLine by decide)
    · refine kt.upd I hl q (tk := x.s.toks) (Heap.SameBut.update ..) (us := vs ++ [u]) (ep' := ep + 1) ?_ (b := ?_) (q.q.append (.one r)) (r := .none) (u := .none) rfl h
      · rw [Heap.get?_update_self _ q.g rfl]
        simp [lobj, Obj.mapSeq]
      · rw [List.length_append]; exact le20 hb
theorem pop0 {l : Addr} {ep : Nat} {t : Tok} (g : x.h.get? l = some (lobj (v :: vs) ep)) (hb : (v :: vs).length ≤ 2 ^ 24)
    (h : ∀ h' ep', Heap.SameBut l x.h h' → h'.get? l = some (lobj vs ep') → Q v { x.s with heap := h' }) : Wp T A (call (.builtin "list.pop") [.ref l, .int 0 t]) Q x := by
  refine call_meets F.slot_list_pop ⟨_, g, rfl⟩ F.entry_list_pop (F.args_list_pop_2 _ _) (MeetsSeq.list_pop_at l (v :: vs).toArray ep 0 t 0 v (by decide) (by simp [seqIndex?]) rfl (Nat.le_trans hb (by decide))) ⟨g, ?_⟩
  obtain ⟨ep', hh⟩ : ∃ ep', (x.h.update l (Obj.mapSeq fun xs => xs.eraseIdxIfInBounds 0)).get? l = some (lobj vs ep') := by
    rw [Heap.get?_update_self _ g rfl]
    simp [lobj, Obj.mapSeq]
  exact h _ ep' (Heap.SameBut.update ..) hh
theorem pop_ok (I : Inv T x σ) {l : Nat} {i : Int} {t : Tok} (hl : l < x.n) (h : Sat (onL σ.get l fun xs => match xs with
    | x :: xs => if i = 0 then some (x, σ.upd l (.list xs)) else none
    | [] => none) Pr) (kt : Kv T x Pr Q) : Wp T A (call (.builtin "list.pop") [.ref (x.γ l), .int i t]) Q x :=
  onL_rep I h fun xs vs ep hg q h => by
    cases xs with
    | nil => exact h.elim
    | cons a xs =>
      obtain ⟨rfl, h⟩ := h.iteI
      obtain ⟨v, us, rfl, r1, r2⟩ := q.q
      exact pop0 q.g q.len fun h' ep' hs hh => kt.upd I hl q (tk := x.s.toks) hs hh (Nat.le_trans (Nat.le_succ _) q.b) r2 r1 h

theorem getDef_ok (I : Inv T x σ) (hb : T.h₀.get? sysModules ≠ none) {d : AV} {w : Value} (h : Sat ((dct? σ a).bind fun kv => (findKey b kv.1 kv.2).bind fun r => some (r.getD d, σ)) Pr) (ra : Rep T x a u) (rb : Rep T x b v) (rd : Rep T x d w) (kt : Kv T x Pr Q) :
    Wp T A (call (.builtin "dict.get") [u, v, w]) Q x :=
  dct_rep I hb (C := fun u => Wp T A (call (.builtin "dict.get") [u, v, w]) Q x) ra h fun ks xs l _ us hs q h => findKey_rep (C := fun v => Wp T A (call (.builtin "dict.get") [.ref l, v, w]) Q x) q.d q.q rb h.bindI fun knd i f r v h1 h2 h3 h => by
    refine call_meetsIn F.slot_dict_get h2.typeIs F.entry_dict_get (F.args_dict_get_3 _ _ _) (meets_dict_get_default _ l h1 hs w) ⟨f, h2, kt.toks I (a := r.getD d) ?_ h⟩
    cases r with
    | none => rw [show f i = none from h3]; exact rd
    | some a => obtain ⟨w, e, rw'⟩ := h3; rw [e]; exact rw'

theorem mth0 {f : Value} {g : AV → Option (AV × Sto)} (h : Sat (on1 args g) Pr) (r : RepL T x args vs) (kt : ∀ a u, Sat (g a) Pr → Rep T x a u → Wp T A (call f [v, u]) Q x) : Wp T A (call f (v :: vs)) Q x :=
  on1_rep (C := fun vs => Wp T A (call f (v :: vs)) Q x) r h fun a u r h => kt a u h r
/-- a method's call -/
theorem runM_ok (I : Inv T x σ) (hb : T.h₀.get? sysModules ≠ none) {Φ : Fns} {mt : Mth} {f : Value} (h : Sat (runM c p Φ mt a args σ) Pr) (hf : mthV T mt = some f) (ra : Rep T x a v) (r : RepL T x args vs) (kt : Kv T x Pr Q)
    (hlex : ∀ n, mt = .lex n → Sat (Φ n (a :: args) σ) Pr → Wp T A (call f (v :: vs)) Q x) : Wp T A (call f (v :: vs)) Q x := by
  cases mt with
  | join => exact Option.some.inj hf ▸ onStr_rep (C := fun v => Wp T A (call (.builtin "str.join") (v :: vs)) Q x) ra h fun y t h => mth0 h r fun a u h r => join_ok I h r kt
  | split =>
    exact Option.some.inj hf ▸ onStr_rep (C := fun v => Wp T A (call (.builtin "str.split") (v :: vs)) Q x) ra h fun y t h => mth0 h r fun a u h r =>
      onStr_rep (C := fun u => Wp T A (call (.builtin "str.split") [.str y t, u]) Q x) r h fun z t h => split_ok I h.iteI.1.1 h.iteI.1.2.1 h.iteI.1.2.2 h.iteI.2 kt
  | count =>
    exact Option.some.inj hf ▸ onStr_rep (C := fun v => Wp T A (call (.builtin "str.count") (v :: vs)) Q x) ra h fun y t h => mth0 h r fun a u h r =>
      onStr_rep (C := fun u => Wp T A (call (.builtin "str.count") [.str y t, u]) Q x) r h fun z t h => by
        obtain ⟨rfl, h⟩ := h.iteI
        refine SC.count ?_
        rw [PyProof.Rows.count_cnt, count_list]
        exact kt.int I h
  | get => exact Option.some.inj hf ▸ on2_rep (C := fun vs => Wp T A (call (.builtin "dict.get") (v :: vs)) Q x) r h fun b v d w rb rd h => getDef_ok I hb h ra rb rd kt
  | append => exact Option.some.inj hf ▸ onLoc_rep (C := fun v => Wp T A (call (.builtin "list.append") (v :: vs)) Q x) ra h fun l hl h => mth0 h r fun a u h r => append_ok I hl h r kt
  | pop =>
    exact Option.some.inj hf ▸ onLoc_rep (C := fun v => Wp T A (call (.builtin "list.pop") (v :: vs)) Q x) ra h fun l hl h => mth0 h r fun a u h r =>
      onInt_rep (C := fun u => Wp T A (call (.builtin "list.pop") [.ref (x.γ l), u]) Q x) r h fun i t h => pop_ok I hl h kt
  | lex n => exact hlex n rfl h
end
end Mine
namespace Mine
open PySem

noncomputable def kcls : Option NameKind → Nat
  | none => 0
  | some .local => 1
  | some .cell => 2
  | some .free => 2
  | some .globalImplicit => 3
  | some .globalExplicit => 4

/-- a name's cell -/
structure CelAt (env : Env) (x : St) (n : Str) (a : Addr) (u : Option Value) (L : Addr) : Prop where
  l : env.cells.lookup n = some a
  g : x.h.IsCell a u
  c : x.κ a = .fr L

/-- a frame bears what the abstract one says -/
structure FrOk (T : Tp) (env : Env) (sc : Scope) (m : Fm) (x : St) : Prop where
  kind : env.scope.kind = .function
  glo : env.globals = mainGlobals
  bui : env.builtins = builtinsNs
  cls : ∀ n, kcls (env.scope.names.lookup n) = kcls (sc.names.lookup n)
  col : x.κ env.locals = .fr env.locals
  ns : ∃ mL, x.h.Ns env.locals mL ∧ ∀ n v, m n = some v → sc.names.lookup n = some .local → ∃ u, mL n = some u ∧ Rep T x v u
  cel : ∀ n v, m n = some v → kcls (sc.names.lookup n) = 2 → ∃ a u L, CelAt env x n a (some u) L ∧ Rep T x v u
  own : ∀ n, sc.names.lookup n = some .cell → ∃ a u, CelAt env x n a u env.locals
  inj : ∀ n k a, env.cells.lookup n = some a → env.cells.lookup k = some a → n = k
  ownk : ∀ n, sc.names.lookup n = some .cell → env.scope.names.lookup n = some .cell
  fre : ∀ n, sc.names.lookup n = some .free → ∃ a u L, CelAt env x n a u L

/-- what holds of the top -/
structure TopOk (T : Tp) (c : Cfg) : Prop where
  sys : T.h₀.get? sysModules ≠ none
  nolimit : T.h₀.NoLimit
  ns : ∃ mg mb, T.h₀.Ns mainGlobals mg ∧ T.h₀.Ns builtinsNs mb ∧ ∀ n v, c.glob n = some v → ∃ u, (mg n = some u ∨ (mg n = none ∧ mb n = some u)) ∧ ∀ x σ, Inv T x σ → Rep T x v u
  meth : ∀ {A : Around} {x : St} {σ : Sto} {l : Nat} {ln : Int} {lf : Nat} {push : List AV} {n : Str} {pl : Sem Bool} {Q : Value × List Value → Shared → Prop}, Inv T x σ →
    σ.get l = some (.lexer ln lf push) → (n = "get_token" ∨ n = "push_token" ∨ n = "_read_char") → (∀ f, T.fnV n = some f → Q (f, [.ref (x.γ l)]) x.s) → Wp T A (getMethod (.ref (x.γ l)) n pl) Q x
  attr : ∀ {A : Around} {x : St} {σ : Sto} {a : AV} {v : Value} {n : Str} {Pa : AV → Prop} {Q : Value → Shared → Prop}, Inv T x σ → Rep T x a v →
    Sat (attrA σ a n) Pa → (∀ r u tk, Pa r → Rep T x r u → Q u { x.s with toks := tk }) → Wp T A (getAttr v n true) Q x
  cw : ∀ {A : Around} {s : Shared} {f : Str} {u : Value} {pos : Pos} {first : List Value} {args : List (Bool × Sem Value)} {Q : Value → Shared → Prop}, T.fnV f = some u →
    wpAny (model T.prog T.w) A (evalArgs u true args []) (fun a s₁ => (∃ y σ, Inv T y σ ∧ y.s = s₁) ∧ wpAny (model T.prog T.w) A (call u (first ++ a.pos) a.kw) Q NoE s₁) NoE s → args.any (·.1) = false →
    wpAny (model T.prog T.w) A (callWith pos u first args []) Q NoE s

/-- where an expression runs -/
structure Cx (T : Tp) (k : Nat) (A : Around) (env : Env) (sc : Scope) (m : Fm) (x : St) (σ : Sto) : Prop where
  A : AOk A k
  I : Inv T x σ
  F : FrOk T env sc m x

section
variable {T : Tp} {c : Cfg} {A : Around} {env : Env} {sc : Scope} {m : Fm} {x y : St} {σ : Sto} {C : Addr → Prop} {k : Nat} {n : Str} {v : AV} {u : Value}

theorem CelAt.go (G : Go C x y) {a L : Addr} {w : Option Value} (h : C a) (q : CelAt env x n a w L) : CelAt env y n a w L :=
  q.g.elim fun o g => ⟨q.l, ⟨o, G.keep a o g.1 h, g.2⟩, (G.col a o g.1 h).trans q.c⟩
/-- the places of a frame -/
noncomputable def FrPl (env : Env) (sc : Scope) (a : Addr) : Prop := a = env.locals ∨ ∃ n, kcls (sc.names.lookup n) = 2 ∧ env.cells.lookup n = some a
theorem kcls1 {k : Option NameKind} (h : kcls k = 1) : k = some .local := by
  rcases k with _ | (_ | _ | _ | _ | _) <;> first | rfl | cases h
theorem kcls2 {k : Option NameKind} (h : kcls k = 2) : k = some .cell ∨ k = some .free := by
  rcases k with _ | (_ | _ | _ | _ | _) <;> first | exact .inl rfl | exact .inr rfl | cases h
theorem kcls3 {k : Option NameKind} (h : kcls k = 3) : k = some .globalImplicit := by
  rcases k with _ | (_ | _ | _ | _ | _) <;> first | rfl | cases h
theorem FrOk.goP (F : FrOk T env sc m x) (G : Go C x y) (hz : ∀ a, x.κ a = .fz → C a) (h : ∀ a, FrPl env sc a → C a) : FrOk T env sc m y :=
  F.ns.elim fun mL q => q.1.elim fun o g =>
    have g1 := g.elim fun _ g => g.elim fun _ g => g.1
    { F with
      col := (G.col _ o g1 (h _ (.inl rfl))).trans F.col
      ns := ⟨mL, q.1.elim fun o g => g.elim fun es g => g.elim fun ep g => ⟨o, es, ep, G.keep _ o g.1 (h _ (.inl rfl)), g.2⟩, fun n v e k => (q.2 n v e k).elim fun u r => ⟨u, r.1, r.2.go G hz v⟩⟩
      cel := fun n v e k => (F.cel n v e k).elim fun a r => r.elim fun u r => r.elim fun L r => ⟨a, u, L, r.1.go G (h a (.inr ⟨n, k, r.1.l⟩)), r.2.go G hz v⟩
      own := fun n k => (F.own n k).elim fun a r => r.elim fun u r => ⟨a, u, r.go G (h a (.inr ⟨n, by rw [k]; rfl, r.l⟩))⟩
      fre := fun n k => (F.fre n k).elim fun a r => r.elim fun u r => r.elim fun L r => ⟨a, u, L, r.go G (h a (.inr ⟨n, by rw [k]; rfl, r.l⟩))⟩ }
theorem FrPl.col (F : FrOk T env sc m x) {a : Addr} (h : FrPl env sc a) : ∃ L, x.κ a = .fr L ∧ ∃ o, x.h.get? a = some o := by
  rcases h with rfl | ⟨n, k, l⟩
  · exact ⟨_, F.col, F.ns.elim fun mL q => q.1.elim fun o g => ⟨o, g.elim fun _ g => g.elim fun _ g => g.1⟩⟩
  · obtain ⟨b, u, L, g⟩ : ∃ b u L, CelAt env x n b u L := (kcls2 k).elim (fun k => (F.own n k).elim fun b g => g.elim fun u g => ⟨b, u, _, g⟩) (F.fre n)
    cases l.symm.trans g.l
    exact ⟨L, g.c, g.g.elim fun o g => ⟨o, g.1⟩⟩
theorem FrOk.go (F : FrOk T env sc m x) (G : Go C x y) (hz : ∀ a, x.κ a = .fz → C a) (h : ∀ a L, x.κ a = .fr L → C a) : FrOk T env sc m y := F.goP G hz fun a q => (q.col F).elim fun L q => h a L q.1
theorem FrOk.step (F : FrOk T env sc m x) (S : Step Pe x y) : FrOk T env sc m y := F.go S.goE (fun _ => ob_fz) fun _ _ => ob_fr
theorem Cx.step (C : Cx T k A env sc m x σ) {α β : Type} {R : St → β → α → Prop} {r : β × Sto} {u : α} (e : End T R x r u y) : Cx T k A env sc m y r.2 := ⟨C.A, e.I, C.F.step e.S⟩

theorem Inv.ns (I : Inv T x σ) {a : Addr} {mg : Str → Option Value} (N : T.h₀.Ns a mg) : x.h.Ns a mg := N.keeps fun b o e => (I.base b o e).1

/-- a name read -/
theorem look_ok (O : TopOk T c) (I : Inv T x σ) (F : FrOk T env sc m x) {Pa : AV → Prop} {Q : Value → Shared → Prop} (h : Sat (look c sc m n) Pa)
    (kt : ∀ v u, Pa v → Rep T x v u → Q u x.s) : (n == ("__debug__" : Str)) = false ∧ Wp T A (loadName env n) Q x := by
  unfold look at h
  have hd : ¬(n = "__debug__" ∨ n = "__classdict__") := fun hd => by rw [if_pos hd] at h; exact h
  rw [if_neg hd] at h
  refine ⟨beq_false_of_ne fun e => hd (.inl e), ?_⟩
  have cl := F.cls n
  have cell (q : Sat (m n) Pa) (hk : kcls (sc.names.lookup n) = 2) : Wp T A (loadName env n) Q x := by
    obtain ⟨v, e, q⟩ := q.mk'
    obtain ⟨a, u, L, g, r⟩ := F.cel n v e hk
    rcases kcls2 (cl.trans hk) with hl | hl
    · exact wpAny_loadName_cell F.kind hl g.l g.g (kt v u q r)
    · exact wpAny_loadName_free F.kind hl g.l g.g (kt v u q r) (beq_false_of_ne fun e => hd (.inr e))
  revert h cl cell
  cases hk : sc.names.lookup n with
  | none => exact fun h => h.elim
  | some j =>
    cases j with
    | «local» =>
      intro h cl _
      obtain ⟨mL, N, q⟩ := F.ns
      obtain ⟨v, e, p⟩ := h.mk'
      obtain ⟨u, h1, h2⟩ := q n v e hk
      exact wpAny_loadName_local F.kind (kcls1 cl) N h1 (kt v u p h2)
    | cell => exact fun h _ cell => cell h rfl
    | free => exact fun h _ cell => cell h rfl
    | globalExplicit => exact fun h => h.elim
    | globalImplicit =>
      intro h cl _
      obtain ⟨v, e, p⟩ := h.mk'
      obtain ⟨mg, mb, N1, N2, q⟩ := O.ns
      obtain ⟨u, h1, h2⟩ := q n v e
      have N1' := I.ns N1
      have N2' := I.ns N2
      rw [← F.glo] at N1'
      rw [← F.bui] at N2'
      rw [PyProof.Rows.loadName_read F.kind (kcls3 cl)]
      rcases h1 with h1 | ⟨h1, h3⟩
      · exact Calls.loadGlobal_global N1' h1 (kt v u p (h2 x σ I))
      · exact Calls.loadGlobal_builtin N1' h1 N2' h3 (kt v u p (h2 x σ I))

/-- the frame's own -/
noncomputable def Owns (env : Env) (sc : Scope) (a : Addr) : Prop := a = env.locals ∨ ∃ n, sc.names.lookup n = some .cell ∧ env.cells.lookup n = some a
/-- a name may be bound: it is the frame's own -/
noncomputable def mayBind (sc : Scope) (n : Str) : Prop := sc.names.lookup n = some .local ∨ sc.names.lookup n = some .cell

/-- one place of a frame is written to -/
theorem own_go {b L : Addr} {h' : Heap} {tk : Nat} (hs : Heap.SameBut b x.h h') (hb : x.κ b = .fr L) : Go (fun a => a ≠ b) x (x.to h' tk) ∧ (∀ a, x.κ a = .fz → a ≠ b) ∧ ∀ W : Addr → Prop, W b → (∃ o, h'.get? b = some o) → Step (Ps W) x (x.to h' tk) :=
  have M := But.same (x := x) (tk := tk) hs
  ⟨M.go, fun a e q => Col.noConfusion ((q ▸ e).symm.trans hb), fun W w g => M.step (fun a e => .inr ⟨e ▸ w, fun q => Col.noConfusion ((e ▸ q).symm.trans hb)⟩) fun a o e _ => e ▸ g⟩
theorem own_inv (I : Inv T x σ) {b L : Addr} {h' : Heap} {tk : Nat} (hs : Heap.SameBut b x.h h') (hb : x.κ b = .fr L) : Inv T (x.to h' tk) σ :=
  (But.same (x := x) (tk := tk) hs).inv I (fun a e => .inl ⟨L, e ▸ hb⟩) rfl

theorem bind_local (I : Inv T x σ) (F : FrOk T env sc m x) (hk : sc.names.lookup n = some .local) (r : Rep T x v u) {Q : Unit → Shared → Prop}
    (kt : ∀ y, Step (Ps (Owns env sc)) x y → Inv T y σ → FrOk T env sc (m.set n v) y → y.κ = x.κ → Q () y.s) : Wp T A (storeName env n u) Q x := by
  obtain ⟨mL, N, q⟩ := F.ns
  have hl : env.kindOf n = some .local := kcls1 ((F.cls n).trans (by rw [hk]; rfl))
  refine wpAny_storeName_local hl N (fun h' N' hs => ?_) (by rw [F.kind]; rfl)
  obtain ⟨G, hz, S⟩ := own_go (tk := x.s.toks + 1) hs F.col
  have hc {k : Str} {a L : Addr} {w : Option Value} (g : CelAt env x k a w L) : CelAt env (x.to h' (x.s.toks + 1)) k a w L := by
    refine ⟨g.l, g.g.sameBut hs ?_, g.c⟩
    rintro rfl
    obtain ⟨o, ho, hd⟩ := g.g
    obtain ⟨o', es, ep, ho', hd', _⟩ := N
    rw [ho] at ho'; injection ho' with ho'; subst ho'
    rw [hd] at hd'; cases hd'
  refine kt _ (S _ (.inl rfl) (N'.elim fun o g => ⟨o, g.elim fun _ g => g.elim fun _ g => g.1⟩)) (own_inv I hs F.col) { F with
    ns := ⟨_, N', fun k w e j => ?_⟩
    cel := fun k w e j => ?_
    own := fun k j => (F.own k j).elim fun a g => g.elim fun u g => ⟨a, u, hc g⟩
    fre := fun k j => (F.fre k j).elim fun a g => g.elim fun u g => g.elim fun L g => ⟨a, u, L, hc g⟩ } rfl
  · unfold Fm.set at e
    by_cases hy : k = n
    · rw [if_pos hy] at e ⊢
      injection e with e
      exact ⟨u, rfl, e ▸ r.go G hz v⟩
    · rw [if_neg hy] at e ⊢
      exact (q k w e j).elim fun u g => ⟨u, g.1, g.2.go G hz w⟩
  · unfold Fm.set at e
    have hy : k ≠ n := fun hy => by rw [hy, hk] at j; cases j
    rw [if_neg hy] at e
    exact (F.cel k w e j).elim fun a g => g.elim fun u g => g.elim fun L g => ⟨a, u, L, hc g.1, g.2.go G hz w⟩
theorem bind_cell (I : Inv T x σ) (F : FrOk T env sc m x) (hk : sc.names.lookup n = some .cell) (r : Rep T x v u) {Q : Unit → Shared → Prop}
    (kt : ∀ y, Step (Ps (Owns env sc)) x y → Inv T y σ → FrOk T env sc (m.set n v) y → y.κ = x.κ → Q () y.s) : Wp T A (storeName env n u) Q x := by
  obtain ⟨mL, N, q⟩ := F.ns
  obtain ⟨a, u₀, g₀⟩ := F.own n hk
  refine wpAny_storeName_cell F.kind (F.ownk n hk) g₀.l g₀.g fun h' C' hs => ?_
  obtain ⟨G, hz, S⟩ := own_go (tk := x.s.toks) hs g₀.c
  have hne : env.locals ≠ a := by
    rintro rfl
    obtain ⟨o, ho, hd⟩ := g₀.g
    obtain ⟨o', es, ep, ho', hd', _⟩ := N
    rw [ho] at ho'; injection ho' with ho'; subst ho'
    rw [hd] at hd'; cases hd'
  have hc {k : Str} {b L : Addr} {w : Option Value} (hy : k ≠ n) (g : CelAt env x k b w L) : CelAt env (x.to h' x.s.toks) k b w L :=
    ⟨g.l, g.g.sameBut hs fun e => hy (F.inj _ _ _ g.l (e ▸ g₀.l)), g.c⟩
  refine kt (x.to h' x.s.toks) (S _ (.inr ⟨n, hk, g₀.l⟩) (C'.elim fun o g => ⟨o, g.1⟩)) (own_inv I hs g₀.c) { F with
    ns := ⟨mL, N.sameBut hs hne, fun k w e j => ?_⟩
    cel := fun k w e j => ?_
    own := fun k j => ?_
    fre := fun k j => (F.fre k j).elim fun a g => g.elim fun u g => g.elim fun L g => ⟨a, u, L, hc (fun hy => by rw [hy, hk] at j; cases j) g⟩ } rfl
  · unfold Fm.set at e
    have hy : k ≠ n := fun hy => by rw [hy, hk] at j; cases j
    rw [if_neg hy] at e
    exact (q k w e j).elim fun u g => ⟨u, g.1, g.2.go G hz w⟩
  · unfold Fm.set at e
    by_cases hy : k = n
    · rw [if_pos hy] at e
      injection e with e
      exact ⟨a, u, _, ⟨hy ▸ g₀.l, C', g₀.c⟩, e ▸ r.go G hz v⟩
    · rw [if_neg hy] at e
      exact (F.cel k w e j).elim fun a g => g.elim fun u g => g.elim fun L g => ⟨a, u, L, hc hy g.1, g.2.go G hz w⟩
  · by_cases hy : k = n
    · exact ⟨a, _, hy ▸ g₀.l, C', g₀.c⟩
    · exact (F.own k j).elim fun a g => g.elim fun u g => ⟨a, u, hc hy g⟩
theorem bind_ok (I : Inv T x σ) (F : FrOk T env sc m x) (hx : mayBind sc n) (r : Rep T x v u) {Q : Unit → Shared → Prop}
    (kt : ∀ y, Step (Ps (Owns env sc)) x y → Inv T y σ → FrOk T env sc (m.set n v) y → y.κ = x.κ → Q () y.s) : Wp T A (storeName env n u) Q x :=
  hx.elim (fun hk => bind_local I F hk r kt) fun hk => bind_cell I F hk r kt
end
end Mine
namespace Mine
open PySem

/-- what the model runs does what the interpreter says -/
noncomputable def Ok (T : Tp) (k : Nat) {α β : Type} (f : Scope → Fm → Sto → Option (β × Sto)) (p : Env → Sem α) (R : St → β → α → Prop) : Prop :=
  ∀ (A : Around) (env : Env) (sc : Scope) (m : Fm) (x : St) (σ : Sto) (P : β × Sto → Prop) (Q : α → Shared → Prop), Cx T k A env sc m x σ → Sat (f sc m σ) P → Kn T R x P Q → Wp T A (p env) Q x
/-- the functions do what they are said to do -/
noncomputable def FnsOk (T : Tp) (Φ : Fns) (k : Nat) : Prop := ∀ (f : Str) (args : List AV) (A : Around) (x : St) (σ : Sto) (u : Value) (vs : List Value) (P : AV × Sto → Prop) (Q : Value → Shared → Prop),
  Sat (Φ f args σ) P → AOk A k → Inv T x σ → T.fnV f = some u → RepL T x args vs → Kv T x P Q → Wp T A (call u vs) Q x
noncomputable def BEq (_ : St) (b b' : Bool) : Prop := b = b'
noncomputable def PartR (_ : St) (o : Option AV) (u : Value) : Prop := ∀ Pi : Option Int → Prop, Sat (optI o) Pi → ∃ i, IsPart u i ∧ Pi i

section
variable (T : Tp) (c : Cfg) (Φ : Fns) (k : Nat)
noncomputable def EvOk (e : Expr) : Prop := Ok T k (ev c Φ e) (eval e) (Rep T)
noncomputable def EvsOk (es : List Expr) : Prop := ∀ p, Ok T k (evs c Φ es) (fun env => spliced (backTo p (starEach es env))) (RepL T)
noncomputable def TrOk (e : Expr) : Prop := Ok T k (fun sc => tr c Φ e (ev c Φ e sc) sc) (fun env => isTrue e env (eval e env)) BEq
noncomputable def TrbOk (op : BoolOp) (es : List Expr) : Prop := Ok T k (trB c Φ op es) (allTrue op es) BEq
noncomputable def EvbOk (op : BoolOp) (es : List Expr) : Prop := ∀ p, Ok T k (evB c Φ op es) (fun env => boolOp p op (evalEach es env)) (Rep T)
noncomputable def EvoOk (o : Option Expr) : Prop := Ok T k (evO c Φ o) (evalPart o) PartR
end

section
variable {T : Tp} {c : Cfg} {Φ : Fns} {k : Nat} {A : Around} {env : Env} {sc : Scope} {m : Fm} {x y : St} {σ : Sto}

theorem Ok.at {α β : Type} {f : Scope → Fm → Sto → Option (β × Sto)} {p : Env → Sem α} {R : St → β → α → Prop} (h : Ok T k f p R) {P : β × Sto → Prop} {Q : α → Shared → Prop}
    (C : Cx T k A env sc m x σ) (q : Sat (f sc m σ) P) (kt : Kn T R x P Q) : Wp T A (p env) Q x := h A env sc m x σ P Q C q kt
theorem EvOk.at {e : Expr} (h : EvOk T c Φ k e) {P : AV × Sto → Prop} {Q : Value → Shared → Prop} (C : Cx T k A env sc m x σ) (q : Sat (ev c Φ e sc m σ) P) (kt : Kv T x P Q) : Wp T A (eval e env) Q x := h A env sc m x σ P Q C q kt
theorem End.rep {α β : Type} {R : St → β → α → Prop} {r : β × Sto} {u : α} {a : AV} {v : Value} (e : End T R x r u y) (h : Rep T x a v) : Rep T y a v := h.step e.S

/-- what is no starred part, no set and no cut -/
structure Plain (e : Expr) : Prop where
  star : ∀ rest env, starEach (e :: rest) env = (false, eval e env) :: starEach rest env
  marks : ∀ op, behindInMarks op e = false
  fold : ∀ env v, foldedSetIterable e env v = pure v
  sub : ∀ o i, subscripted e false o i = operate [o, i] (getItem o i)
theorem plain_of {e : Expr} {P : AV × Sto → Prop} (h : Sat (ev c Φ e sc m σ) P) : Plain e := by
  cases e with
  | Starred v p => exact h.elim
  | Set a b p => exact h.elim
  | Slice a b d p => exact h.elim
  | _ => exact ⟨fun _ _ => rfl, fun _ => rfl, fun _ _ => rfl, fun _ _ => rfl⟩

theorem const_ok {a : Const} {j : Nat} {p : Pos} : EvOk T c Φ k (.Constant a j p) := fun A env sc m x σ P Q C h kt => by
  cases a with
  | none => exact wpAny_Constant_none (kt.here C.I (a := .none) rfl h)
  | bool b => exact wpAny_Constant_bool (kt.bool C.I h)
  | int i => exact wpAny_Constant_int (kt.int C.I h)
  | str s => exact wpAny_Constant_str (kt.str C.I h)
  | _ => exact h.elim
theorem name_ok (O : TopOk T c) {n : Str} {p : Pos} : EvOk T c Φ k (.Name n p) := fun A env sc m x σ P Q C h kt =>
  have z := look_ok (A := A) O C.I C.F h.mapI fun v u p r => kt.here C.I r p
  wpAny_Name z.2 z.1
theorem bin_node {l r : Expr} {op : Operator} {p : Pos} (hl : EvOk T c Φ k l) (hr : EvOk T c Φ k r) : EvOk T c Φ k (.BinOp l op r p) := fun A env sc m x σ P Q C h kt =>
  wpAny_BinOp (hl.at C h.bindI fun a u y h e => hr.at (C.step e) h.bindI fun b v z h f => bin_ok f.I h (f.rep e.R) f.R ((kt.on e.S).on f.S))
theorem usub_node {e : Expr} {p : Pos} (he : EvOk T c Φ k e) : EvOk T c Φ k (.UnaryOp .USub e p) := fun A env sc m x σ P Q C h kt =>
  wpAny_UnaryOp (he.at C h.bindI fun a u y h e => onInt_rep (C := fun u => Wp T A (unaryOp .USub u) Q y) e.R h fun i t h => PySem.P.neg_int ((kt.on e.S).int e.I h))
theorem ifexp_node {t a b : Expr} {p : Pos} (ht : TrOk T c Φ k t) (ha : EvOk T c Φ k a) (hb : EvOk T c Φ k b) : EvOk T c Φ k (.IfExp t a b p) := fun A env sc m x σ P Q C h kt =>
  wpAny_IfExp (Ok.at ht C h.bindI fun r u y h e => by
    obtain ⟨d, σ'⟩ := r
    obtain rfl : d = u := e.R
    cases d
    · exact hb.at (C.step e) h (kt.on e.S)
    · exact ha.at (C.step e) h (kt.on e.S))
theorem cmp_node {l r : Expr} {op : CmpOp} {p : Pos} (hl : EvOk T c Φ k l) (hr : EvOk T c Φ k r) : EvOk T c Φ k (.Compare l [op] [r] p) := fun A env sc m x σ P Q C h kt =>
  wpAny_Compare1 (hl.at C h.bindI fun a u y h e => hr.at (C.step e) h.bindI fun b v z h f => cmp_ok C.A f.I h.mapI (f.rep e.R) f.R fun d q => ((kt.on e.S).on f.S).bool f.I q)
    (h.bindI.mk'.elim fun a q => q.2.bindI.mk'.elim fun b q => (plain_of (P := fun _ => True) (by rw [q.1]; exact trivial)).marks op)

theorem evs_nil : EvsOk T c Φ k [] := fun p A env sc m x σ P Q C h kt => wpAny_items_nil (kt _ _ x h ⟨.refl, C.I, .nil⟩)
theorem sat_true {α : Type} {o : Option α} {P : α → Prop} (h : Sat o P) : Sat o fun _ => True := by cases o <;> trivial
theorem evs_cons {e : Expr} {es : List Expr} (he : EvOk T c Φ k e) (hs : EvsOk T c Φ k es) : EvsOk T c Φ k (e :: es) := fun p A env sc m x σ P Q C h kt =>
  wpAny_items_cons (he.at C h.bindI fun a u y h e => Ok.at (hs p) (C.step e) h.mapI fun b v z h f => kt _ _ z h ⟨e.S.te f.S, f.I, .cons (f.rep e.R) f.R⟩) ((plain_of h.bindI).star es env)
theorem evs_length {es : List Expr} {P : List AV × Sto → Prop} (h : Sat (evs c Φ es sc m σ) P) : Sat (evs c Φ es sc m σ) fun r => r.1.length = es.length ∧ P r := by
  induction es generalizing σ P with
  | nil => exact ⟨rfl, h⟩
  | cons e es ih =>
    obtain ⟨a, e1, h⟩ := h.bindI.mk'
    obtain ⟨b, e2, h⟩ := (ih h.mapI).mk'
    show Sat (Option.bind _ _) _
    rw [e1]
    show Sat (Option.map _ _) _
    rw [e2]
    exact ⟨congrArg (· + 1) h.1, h.2⟩
/-- several values are laid into a list or a tuple -/
theorem seq_node {es : List Expr} {p : Pos} {P : List AV × Sto → Prop} {Q : List Value → Shared → Prop} (hs : EvsOk T c Φ k es) (C : Cx T k A env sc m x σ) (hl : es.length ≤ 1000) (h : Sat (evs c Φ es sc m σ) P)
    (kt : ∀ a us y, P a → End T (RepL T) x a us y → a.1.length ≤ 2 ^ 24 → us.length ≤ sizeLine → Q us y.s) : Wp T A (spliced (backTo p (starEach es env))) Q x :=
  Ok.at (hs p) C (evs_length h) fun a u y h e => kt a u y h.2 e (by rw [h.1]; exact Nat.le_trans hl (by decide)) (by rw [e.R.length, h.1]; exact Nat.le_trans hl (show 1000 ≤ sizeLine by decide))
theorem list_node {es : List Expr} {p : Pos} (hs : EvsOk T c Φ k es) : EvOk T c Φ k (.List es p) := fun A env sc m x σ P Q C h kt =>
  wpAny_List (seq_node hs C h.iteI.1 h.iteI.2.mapI fun a us y h e hl hu => ⟨hu, (kt.on e.S).list' (tk := y.s.toks) e.I e.R hl h⟩)
theorem tuple_node {es : List Expr} {j : Nat} {p : Pos} (hs : EvsOk T c Φ k es) : EvOk T c Φ k (.Tuple es j p) := fun A env sc m x σ P Q C h kt =>
  wpAny_Tuple (seq_node hs C h.iteI.1 h.iteI.2.mapI fun a us y h e hl hu => ⟨hu, (kt.on e.S) _ _ (y.re (y.h.push (tobj us 0)) y.s.toks (upc y.κ y.h.objs.size .fz)) h
    ⟨Ext.push.step, Ext.push.inv e.I rfl, _, us, 0, rfl, upc_self, Heap.get?_push_size _ rfl, hl, Ext.push.repL e.R⟩⟩)
/-- an item is got -/
theorem got_tail {e i : Expr} {u v : Value} {ops : List Value} {Q : Value → Shared → Prop} (hs : subscripted i false u v = operate ops (getItem u v)) (g : Got T A x Q u v) : Wp T A (PyProof.Rows.subscriptTail e i u v) Q x :=
  g.1.elim fun _ g1 => g1.elim fun _ g1 => PyProof.Rows.tail_any g1.1 g1.2 g.2 hs
theorem Kn.any {P : AV × Sto → Prop} {Q : Value → Shared → Prop} (I : Inv T x σ) (kt : Kv T x P Q) : ∀ r u tk, P (r, σ) → Rep T x r u → Q u { x.s with toks := tk } := fun _ _ _ h R => kt.toks I R h
theorem index_node {e i : Expr} {p : Pos} (he : EvOk T c Φ k e) (hi : EvOk T c Φ k i)
    (hf : ∀ sc m σ, ev c Φ (.Subscript e i p) sc m σ = (ev c Φ e sc m σ).bind fun v => (ev c Φ i sc m v.2).bind fun i => (getA i.2 v.1 i.1).map fun r => (r, i.2)) : EvOk T c Φ k (.Subscript e i p) := fun A env sc m x σ P Q C h kt => by
  rw [hf] at h
  exact PyProof.Rows.Subscript_ (he.at C h.bindI fun a u y h e => hi.at (C.step e) h.bindI fun b v z g f => got_tail ((plain_of h.bindI).sub _ _) (get_ok f.I g.mapI (f.rep e.R) f.R (((kt.on e.S).on f.S).any f.I)))

theorem evo_none : EvoOk T c Φ k none := fun A env sc m x σ P Q C h kt => wpAny_evalPart_none (kt _ _ x h ⟨.refl, C.I, fun Pi h => ⟨none, .none, h⟩⟩)
theorem evo_some {e : Expr} (he : EvOk T c Φ k e) : EvoOk T c Φ k (some e) := fun A env sc m x σ P Q C h kt =>
  wpAny_evalPart_some (he.at C h.mapI fun a u y h e => kt _ _ y h ⟨e.S, e.I, fun Pi h => onInt_rep (C := fun u => ∃ i, IsPart u i ∧ Pi i) e.R h fun i t h => ⟨_, .int _ _, h⟩⟩)
/-- the cut's own object -/
theorem slice_ext {o : Obj} : Ext y (y.re (y.h.push o) y.s.toks (upc y.κ y.h.objs.size .tmp)) := Ext.push
theorem slice_node {e : Expr} {lo hi : Option Expr} {sp p : Pos} (he : EvOk T c Φ k e) (hl : EvoOk T c Φ k lo) (hh : EvoOk T c Φ k hi) : EvOk T c Φ k (.Subscript e (.Slice lo hi none sp) p) := fun A env sc m x σ P Q C h kt =>
  PyProof.Rows.Subscript_ (he.at C h.bindI fun a u y h e => wpAny_Slice (Ok.at hl (C.step e) h.bindI fun l vl z h f => Ok.at hh ((C.step e).step f) h.bindI fun g vu w h d => wpAny_evalPart_none (by
    obtain ⟨l', e1, h⟩ := f.R _ h.bindI
    obtain ⟨g', e2, h⟩ := d.R _ h.bindI
    have M := slice_ext (y := w) (o := sliceObj vl vu .none)
    exact got_tail (x := w.re _ _ _) rfl (slice_ok (M.inv d.I rfl) h (M.rep (d.rep (f.rep e.R))) (Heap.get?_push_size _ rfl) e1 e2 ((((kt.on e.S).on f.S).on d.S).on M.step)))))
end
end Mine
namespace Mine
open PySem

section
variable {T : Tp} {c : Cfg} {Φ : Fns} {k : Nat} {A : Around} {env : Env} {sc : Scope} {m : Fm} {x y : St} {σ : Sto}

theorem base_plain {e : Expr} (h : okBase e = true) (n : Str) (env : Env) (w : Sem Value) : attributeBase e n env w = w := by
  cases e with
  | Name _ _ => rfl
  | Constant _ _ _ => rfl
  | Attribute _ _ _ => rfl
  | _ => exact Bool.noConfusion h
theorem attr_node (O : TopOk T c) {e : Expr} {n : Str} {p : Pos} (he : EvOk T c Φ k e) : EvOk T c Φ k (.Attribute e n p) := fun A env sc m x σ P Q C h kt => by
  obtain ⟨hb, h⟩ := h.iteI
  rw [arm_eval_Attribute, base_plain hb]
  exact wpAny_bind (he.at C h.bindI fun a u y h e => wpAny_bind (wpAny_standAt (wpAny_bind (wpAny_holding (O.attr e.I e.R h.mapI fun r u tk p R => wpAny_bind (wpAny_letTemporaryGo (wpAny_pure ((kt.on e.S).toks e.I R p))))))))

theorem args_plain {p : Pos} {es : List Expr} {P : List AV × Sto → Prop} (h : Sat (evs c Φ es sc m σ) P) : (backTo p (starEach es env)).any (·.1) = false ∧ (backTo p (starEach es env)).all (fun x => !x.1) = true := by
  induction es generalizing σ P with
  | nil => exact ⟨rfl, rfl⟩
  | cons e es ih =>
    obtain ⟨a, e1, h'⟩ := h.bindI.mk'
    rw [(plain_of h.bindI).star]
    exact ih h'.mapI
/-- the arguments of a call -/
theorem evalArgs_ok {es : List Expr} {p : Pos} {f : Value} {P : List AV × Sto → Prop} {Q : Args → Shared → Prop} (hs : EvsOk T c Φ k es) (C : Cx T k A env sc m x σ) (h : Sat (evs c Φ es sc m σ) P)
    (kt : Kn T (RepL T) x P fun us s => Q ⟨us, []⟩ s) : Wp T A (evalArgs f true (backTo p (starEach es env)) []) Q x := by
  cases es with
  | nil => exact PyProof.Rows.evalArgs_nil3 (kt _ _ x h ⟨.refl, C.I, .nil⟩)
  | cons e es =>
    have z : Wp T A (spliced (backTo p (starEach (e :: es) env))) (fun us s => Q ⟨us, []⟩ s) x := Ok.at (hs p) C h kt
    rw [(plain_of h.bindI).star] at z ⊢
    exact Calls.evalArgs_plain z

theorem bi_or {n : Bi} : (∃ id, biV n = .builtin id) ∨ ∃ id, biV n = .type id := by
  cases n <;> first | exact .inl ⟨_, rfl⟩ | exact .inr ⟨_, rfl⟩
/-- what may be called by its name -/
noncomputable def isFn : AV → Bool
  | .bi _ | .glob _ => true
  | _ => false
theorem callV_fn {g : AV} {p : Pos} {as : List AV} {P : AV × Sto → Prop} (h : Sat (callV c Φ p g as σ) P) : isFn g = true := by
  cases g with
  | bi n => rfl
  | glob n => rfl
  | _ => exact h.elim
/-- a call of what a name says: any callee -/
theorem callWith_ok (O : TopOk T c) {g : AV} {f : Value} {p : Pos} {args : List (Bool × Sem Value)} (hp : args.any (·.1) = false) (hg : isFn g = true) (rg : Rep T x g f) {Q : Value → Shared → Prop}
    (h : ∀ g, Wp T A (evalArgs g true args []) (fun a s₁ => (∃ y σ, Inv T y σ ∧ y.s = s₁) ∧ wpAny (model T.prog T.w) A (call f a.pos a.kw) Q NoE s₁) x) :
    Wp T A (callWith p f [] args []) Q x := by
  cases g with
  | bi n =>
    cases (show biV n = f from rg)
    rcases bi_or (n := n) with ⟨id, e⟩ | ⟨id, e⟩
    · rw [e] at h ⊢
      exact Calls.callWith_builtin hp (wpAny_mono (h _) (fun _ _ z => z.2) fun _ _ z => z)
    · rw [e] at h ⊢
      exact PyProof.Rows.callWith_type hp (wpAny_mono (h _) (fun _ _ z => z.2) fun _ _ z => z)
  | glob n => exact O.cw rg (h _) hp
  | _ => exact Bool.noConfusion hg
theorem callV_ok (hΦ : FnsOk T Φ k) {g : AV} {f : Value} {as : List AV} {vs : List Value} {p : Pos} {P : AV × Sto → Prop} {Q : Value → Shared → Prop} (hA : AOk A k) (I : Inv T x σ) (h : Sat (callV c Φ p g as σ) P) (rg : Rep T x g f)
    (r : RepL T x as vs) (kt : Kv T x P Q) : Wp T A (call f vs) Q x := by
  cases g with
  | bi n => exact (show biV n = f from rg) ▸ callB_ok hA I h r kt
  | glob n => exact hΦ n as A x σ f vs P Q h hA I rg r kt
  | _ => exact h.elim
theorem call_node (O : TopOk T c) (hΦ : FnsOk T Φ k) {f : Str} {fp p : Pos} {es : List Expr} (hs : EvsOk T c Φ k es)
    (hf : ∀ sc m σ, ev c Φ (.Call (.Name f fp) es [] p) sc m σ = (look c sc m f).bind fun g => (evs c Φ es sc m σ).bind fun as => callV c Φ p g as.1 as.2) : EvOk T c Φ k (.Call (.Name f fp) es [] p) := fun A env sc m x σ P Q C h kt => by
  rw [hf] at h
  have z := look_ok (A := A) O C.I C.F h.bindI (Q := fun u s₁ => wpAny (model T.prog T.w) A (callWith p u [] (backTo p (starEach es env)) []) Q NoE s₁) fun g u h R => by
    obtain ⟨as, e, h'⟩ := h.bindI.mk'
    exact callWith_ok O (args_plain h.bindI).1 (callV_fn h') R fun q => evalArgs_ok hs C h.bindI fun a us y h e => ⟨⟨y, _, e.I, rfl⟩, callV_ok hΦ C.A e.I h (e.rep R) e.R (kt.on e.S)⟩
  exact PyProof.Rows.Call_Name rfl (wpAny_Name z.2 z.1)

theorem mth_bi {mt : Mth} {f : Value} (hf : mthV T mt = some f) : (∃ id, f = .builtin id) ∨ ∃ n, T.fnV n = some f := by
  cases mt with
  | lex n => exact .inr ⟨n, hf⟩
  | _ => exact .inl ⟨_, (Option.some.inj hf).symm⟩
theorem meth_node (O : TopOk T c) (hΦ : FnsOk T Φ k) {e : Expr} {n : Str} {ap p : Pos} {es : List Expr} (he : EvOk T c Φ k e) (hs : EvsOk T c Φ k es) : EvOk T c Φ k (.Call (.Attribute e n ap) es [] p) := fun A env sc m x σ P Q C h kt => by
  obtain ⟨⟨hb, hline, hlen⟩, h⟩ := h.iteI
  rw [arm_eval_Call, base_plain hb]
  refine wpAny_bind (he.at C h.bindI fun a v y h e => wpAny_bind (wpAny_standAt ?_))
  have hp := args_plain (env := env) (p := p) (c := c) (Φ := Φ) (sc := sc) (m := m) (σ := a.2) (P := fun _ => True) (h.bindI.mk'.elim fun _ q => sat_true q.2.bindI)
  have hform : methodCallForm (es.length + ([] : List Keyword).length) (backTo p (starEach es env)) (backToKw p (keywordEach [] env)) = true := by
    unfold methodCallForm
    rw [hp.2]
    exact decide_eq_true hlen
  have hpos : methodCallPos true ‹_› env ap p = pure p := by unfold methodCallPos; rw [hline]; simp
  unfold methodCall
  rw [hform]
  have main : ∀ mt f, Sat ((evs c Φ es sc m a.2).bind fun as => runM c p Φ mt a.1 as.1 as.2) P → mthV T mt = some f → Wp T A (methodCallPos true ‹_› env ap p >>= fun cp => callWith cp f [v] (backTo p (starEach es env)) (backToKw p (keywordEach [] env))) Q y := by
    intro mt f h hf
    refine wpAny_bind (wpAny_of_eq hpos ?_)
    have ha : ∀ g, Wp T A (evalArgs g true (backTo p (starEach es env)) []) (fun ar s₂ => (∃ y σ, Inv T y σ ∧ y.s = s₂) ∧ wpAny (model T.prog T.w) A (call f ([v] ++ ar.pos) ar.kw) Q NoE s₂) y := fun g =>
      evalArgs_ok hs (C.step e) h.bindI fun as us z h f' => ⟨⟨z, _, f'.I, rfl⟩, runM_ok (a := a.1) f'.I O.sys h hf (f'.rep e.R) f'.R ((kt.on e.S).on f'.S) fun n hm h =>
        hΦ n _ A z _ f _ P Q h C.A f'.I (by rw [hm] at hf; exact hf) (.cons (f'.rep e.R) f'.R) ((kt.on e.S).on f'.S)⟩
    rcases mth_bi hf with ⟨id, rfl⟩ | ⟨n, hn⟩
    · exact Calls.callWith_builtin hp.1 (wpAny_mono (ha _) (fun _ _ z => z.2) fun _ _ z => z)
    · exact O.cw hn (ha _) hp.1
  refine wpAny_bind (wpAny_holding ?_)
  show Wp T A (getMethod v n _) _ y
  exact resM_ok e.I h.bindI e.R (fun l ln lf push hg hv hn h => by subst hv; exact O.meth e.I hg hn fun f hf => main _ f h hf) main

/-- tests -/
theorem tr_not {e : Expr} {p : Pos} (he : TrOk T c Φ k e) : TrOk T c Φ k (.UnaryOp .Not e p) := fun A env sc m x σ P Q C h kt =>
  wpAny_isTrue_Not (Ok.at he C h.mapI fun a u y h e => kt _ _ y h ⟨e.S, e.I, congrArg not e.R⟩)
theorem trb_nil {op : BoolOp} : TrbOk T c Φ k op [] := fun A env sc m x σ P Q C h kt => by
  rw [arm_allTrue_nil]
  exact wpAny_pure (kt _ _ x h ⟨.refl, C.I, rfl⟩)
theorem trb_cons {op : BoolOp} {e : Expr} {es : List Expr} (he : TrOk T c Φ k e) (hs : TrbOk T c Φ k op es) : TrbOk T c Φ k op (e :: es) := fun A env sc m x σ P Q C h kt => by
  rw [arm_allTrue_cons]
  refine wpAny_bind (Ok.at he C h.bindI fun a u y h e => ?_)
  obtain ⟨b, σ'⟩ := a
  obtain rfl : b = u := e.R
  cases op <;> cases b
  · exact wpAny_pure (kt _ _ y h ⟨e.S, e.I, rfl⟩)
  · exact Ok.at hs (C.step e) h (kt.on e.S)
  · exact Ok.at hs (C.step e) h (kt.on e.S)
  · exact wpAny_pure (kt _ _ y h ⟨e.S, e.I, rfl⟩)
theorem tr_bool {op : BoolOp} {es : List Expr} {p : Pos} (hs : TrbOk T c Φ k op es) : TrOk T c Φ k (.BoolOp op es p) := fun A env sc m x σ P Q C h kt => wpAny_isTrue_BoolOp (Ok.at hs C h kt)
noncomputable def TrcOk (T : Tp) (c : Cfg) (Φ : Fns) (k : Nat) (ops : List CmpOp) (es : List Expr) : Prop := ∀ (A : Around) (env : Env) (sc : Scope) (m : Fm) (x : St) (σ : Sto) (P : Bool × Sto → Prop) (Q : Bool → Shared → Prop) (a : AV) (v : Value) (p : Pos),
  Cx T k A env sc m x σ → Rep T x a v → Sat (trC c Φ ops es a sc m σ) P → Kn T BEq x P Q → Wp T A (testChain p v ops (markedEach ops es (evalEach es env))) Q x
theorem trc_one {op : CmpOp} {e : Expr} (he : EvOk T c Φ k e) : TrcOk T c Φ k [op] [e] := fun A env sc m x σ P Q a v p C R h kt => by
  have hm : markedEach [op] [e] (evalEach [e] env) = [eval e env] := by
    show [markedBehindIn op e (eval e env)] = _
    unfold markedBehindIn
    rw [(plain_of h.bindI).marks op]
  rw [hm]
  exact wpAny_bind (wpAny_holding (he.at C h.bindI fun b u y h e => wpAny_bind (wpAny_standAt (wpAny_bind (wpAny_operating (cmp_ok C.A e.I h.mapI (e.rep R) e.R fun d q => wpAny_holding (wpAny_truthy_bool (kt _ _ y q ⟨e.S, e.I, rfl⟩))))))))
theorem trc_cons {op op' : CmpOp} {ops : List CmpOp} {e e' : Expr} {es : List Expr} (he : EvOk T c Φ k e) (hs : TrcOk T c Φ k (op' :: ops) (e' :: es)) : TrcOk T c Φ k (op :: op' :: ops) (e :: e' :: es) := fun A env sc m x σ P Q a v p C R h kt => by
  show Wp T A (testChain p v (op :: op' :: ops) (eval e env :: markedEach (op' :: ops) (e' :: es) (evalEach (e' :: es) env))) Q x
  refine wpAny_bind (wpAny_holding (he.at C h.bindI fun b u y h e => wpAny_bind (wpAny_standAt (wpAny_bind (wpAny_holding (cmp_ok C.A e.I h.bindI (e.rep R) e.R fun d q => wpAny_bind (wpAny_release (wpAny_bind (wpAny_holding (wpAny_truthy_bool ?_))))))))))
  cases d
  · exact wpAny_pure (kt _ _ y q ⟨e.S, e.I, rfl⟩)
  · exact hs A env sc m y _ P Q b.1 u p (C.step e) e.R q (kt.on e.S)
theorem tr_cmp {l : Expr} {ops : List CmpOp} {es : List Expr} {p : Pos} (hl : EvOk T c Φ k l) (hs : ops.length = es.length → TrcOk T c Φ k ops es) : TrOk T c Φ k (.Compare l ops es p) := fun A env sc m x σ P Q C h kt => by
  obtain ⟨hlen, h⟩ := h.iteI
  show Wp T A (isTrue (.Compare l ops es p) env _) Q x
  rw [arm_isTrue_Compare]
  exact wpAny_bind (hl.at C h.bindI fun a u y h e => hs hlen A env sc m y _ P Q a.1 u p (C.step e) e.R h (kt.on e.S))
theorem tr_value {e : Expr} (he : EvOk T c Φ k e) (hi : ∀ env w, isTrue e env w = (do let v ← w; standAt e.pos; holding [v] (truthy v)))
    (hf : ∀ w sc m σ, tr c Φ e w sc m σ = (w m σ).bind fun v => (truthA v.2 v.1).map fun b => (b, v.2)) : TrOk T c Φ k e := fun A env sc m x σ P Q C h kt => by
  have h : Sat (tr c Φ e (ev c Φ e sc) sc m σ) P := h
  rw [hf] at h
  exact wpAny_isTrue_value (he.at C h.bindI fun a u y h e => truth_ok e.I h.mapI e.R fun b tk q => kt _ _ (y.to y.h tk) q ⟨e.S.te Ext.toks.step, Ext.toks.inv e.I rfl, rfl⟩) (hi _ _)

/-- and, or -/
theorem evb_one {op : BoolOp} {e : Expr} (he : EvOk T c Φ k e) : EvbOk T c Φ k op [e] := fun p A env sc m x σ P Q C h kt => he.at C h kt
theorem evb_cons {op : BoolOp} {e e' : Expr} {es : List Expr} (he : EvOk T c Φ k e) (hs : EvbOk T c Φ k op (e' :: es)) : EvbOk T c Φ k op (e :: e' :: es) := fun p A env sc m x σ P Q C h kt => by
  show Wp T A (boolOp p op (eval e env :: eval e' env :: evalEach es env)) Q x
  refine wpAny_bind (he.at C h.bindI fun a u y h e => wpAny_bind (wpAny_standAt (wpAny_bind (wpAny_holding (truth_ok e.I h.bindI e.R fun b tk h => ?_)))))
  have f : Ev T x a u (y.to y.h tk) := ⟨e.S.te Ext.toks.step, Ext.toks.inv e.I rfl, Ext.toks.rep e.R⟩
  cases op <;> cases b
  · exact wpAny_pure (kt _ _ _ h f)
  · exact Ok.at (hs p) (C.step f) h (kt.on f.S)
  · exact Ok.at (hs p) (C.step f) h (kt.on f.S)
  · exact wpAny_pure (kt _ _ _ h f)
theorem bool_node {op : BoolOp} {es : List Expr} {p : Pos} (hs : EvbOk T c Φ k op es) : EvOk T c Φ k (.BoolOp op es p) := fun A env sc m x σ P Q C h kt => by
  rw [arm_eval_BoolOp]
  exact Ok.at (hs p) C h kt
end
end Mine
namespace Mine
open PySem

/-- the iterator's own objects -/
noncomputable def Tmps (x : St) (O : List Addr) : Prop := ∀ b ∈ O, x.κ b = .tmp ∧ ∃ o, x.h.get? b = some o
/-- an iterator of one object -/
noncomputable def ItO (x : St) (a : Addr) (nm : String) (w : Value) (i : Nat) : Prop := ∃ o, x.h.get? a = some o ∧ o.cls = .type nm ∧ o.data = .fields #[w, .int i 0]

/-- zip's iterator of two lists -/
inductive ZipIt (T : Tp) (x : St) (i : Nat) (a : Addr) : List Addr → List AV → Prop
  | mk {TI TO i1 i2 l1 l2 : Addr} {xs ys : List AV} {vs us : List Value} {e1 e2 : Nat} (D : ZipApart a TI TO i1 i2 l1 l2) (z : IsZip x.h a TI TO .none) (hI : IsPair x.h TI (.ref i1) (.ref i2)) (hO : ∃ p q, IsPair x.h TO p q)
    (h1 : ItO x i1 "list_iterator" (.ref l1) i) (h2 : ItO x i2 "list_iterator" (.ref l2) i) (s1 : SeqAt x lobj .fz l1 xs.length (RepL T x xs) vs e1) (s2 : SeqAt x lobj .fz l2 ys.length (RepL T x ys) us e2) : ZipIt T x i a [a, TI, TO, i1, i2] (zipA xs ys)

/-- an iterator over a source, at its place -/
noncomputable def ItOk (T : Tp) (x : St) (O : List Addr) (i : Nat) (a : Addr) : Src → Prop
  | .pairs ps => ZipIt T x i a O ps
  | .val v => O = [a] ∧ match v with
    | .list xs => ∃ l vs ep, SeqAt x lobj .fz l xs.length (RepL T x xs) vs ep ∧ ItO x a "list_iterator" (.ref l) i
    | .tuple xs => ∃ l vs ep, SeqAt x tobj .fz l xs.length (RepL T x xs) vs ep ∧ ItO x a "tuple_iterator" (.ref l) i
    | .loc l => l < x.n ∧ ItO x a "list_iterator" (.ref (x.γ l)) i
    | .str y => ∃ ty t, (ty = "str_ascii_iterator" ∨ ty = "str_iterator") ∧ ItO x a ty (.str y t) i
    | .range j k => (i : Int) ≤ (k - j).toNat ∧ IsRangeIter x.h a (j + i) ((k - j).toNat - i) 1
    | _ => False

section
variable {T : Tp} {A : Around} {C : Addr → Prop} {O : List Addr} {x y : St} {σ : Sto} {i : Nat} {a : Addr} {src : Src} {v : AV} {u : Value} {xs : List AV} {vs : List Value} {ep : Nat}

theorem ItO.go (G : Go C x y) (h : C a) {nm : String} {w : Value} (r : ItO x a nm w i) : ItO y a nm w i := r.elim fun o r => ⟨o, G.keep a o r.1 h, r.2⟩
theorem RepL.go' (G : Go C x y) (h : ∀ a, x.κ a = .fz → C a) (r : RepL T x xs vs) : RepL T y xs vs := r.go G h xs
theorem ItOk.go (G : Go C x y) (h : ∀ a, x.κ a = .fz → C a) (hO : ∀ b ∈ O, C b) (r : ItOk T x O i a src) : ItOk T y O i a src := by
  cases src with
  | pairs ps =>
    obtain ⟨D, z, hI, ⟨p, q, hT⟩, h1, h2, s1, s2⟩ := r
    have m (b : Addr) (e : b = a ∨ b ∈ _) : C b := hO b (List.mem_cons.mpr e)
    have m1 := m _ (.inr (.head _)); have m2 := m _ (.inr (.tail _ (.head _))); have m3 := m _ (.inr (.tail _ (.tail _ (.head _)))); have m4 := m _ (.inr (.tail _ (.tail _ (.tail _ (.head _)))))
    exact ⟨D, G.keep _ _ z (m _ (.inl rfl)), G.keep _ _ hI m1, ⟨p, q, G.keep _ _ hT m2⟩, h1.go G m3, h2.go G m4, s1.go G (h _ s1.c) (RepL.go' G h), s2.go G (h _ s2.c) (RepL.go' G h)⟩
  | val v =>
    obtain ⟨rfl, r⟩ := r
    refine ⟨rfl, ?_⟩
    have m : C a := hO a (.head _)
    cases v with
    | list xs => exact r.elim fun l r => r.elim fun vs r => r.elim fun ep r => ⟨l, vs, ep, r.1.go G (h _ r.1.c) (RepL.go' G h), r.2.go G m⟩
    | tuple xs => exact r.elim fun l r => r.elim fun vs r => r.elim fun ep r => ⟨l, vs, ep, r.1.go G (h _ r.1.c) (RepL.go' G h), r.2.go G m⟩
    | loc l => exact ⟨Nat.lt_of_lt_of_le r.1 G.nx, G.gam l r.1 ▸ r.2.go G m⟩
    | str y => exact r.elim fun ty r => r.elim fun t r => ⟨ty, t, r.1, r.2.go G m⟩
    | range j k => exact ⟨r.1, G.keep _ _ r.2 m⟩
    | _ => exact r.elim

theorem Tmps.fz (h : Tmps x O) {b : Addr} (e : x.κ b = .fz) (hb : b ∈ O) : False := Col.noConfusion (e.symm.trans (h b hb).1)
theorem Tmps.step {P : Addr → Col → Prop} (S : Step P x y) (h : Tmps x O) : Tmps y O := fun b hb => (h b hb).2.elim fun o e => ⟨(S.col b o e (ob_tmp (h b hb).1)).trans (h b hb).1, S.alive b o e⟩
theorem Tmps.inv (h : Tmps x O) (M : But (· ∈ O) x y) (hn : y.n = x.n) (I : Inv T x σ) : Inv T y σ := M.inv I (fun b hb => .inr (h b hb).1) hn
theorem Tmps.rep (h : Tmps x O) (M : But (· ∈ O) x y) (R : Rep T x v u) : Rep T y v u := R.go M.go (fun _ => h.fz) v
theorem Tmps.fr {env : Env} {sc : Scope} {m : Fm} (h : Tmps x O) (M : But (· ∈ O) x y) (F : FrOk T env sc m x) : FrOk T env sc m y := F.go M.go (fun _ => h.fz) fun b L e hb => Col.noConfusion (e.symm.trans (h b hb).1)

/-- what is there alone lets no owned tuple go -/
noncomputable def owners : List String := ["enumerate", "zip", "dict_itemiterator", "dict_reverseitemiterator", "odict_iterator", "itertools.zip_longest", "itertools.pairwise"]
theorem letGo_plain {M : Model} {E : Value → Shared → Prop} {s : Shared} {t : Expr} {o : Obj} {nm : String} (ho : s.heap.get? a = some o) (hc : o.cls = .type nm) (hn : owners.contains nm = false) {Q : Unit → Shared → Prop} (h : Q () s) :
    wpAny M A (letOwnedTupleGo t (.ref a) u) Q E s := by
  have main : wpAny M A (do
      let (.ref r, .ref b) := ((.ref a : Value), u) | return
      let o ← load r
      match o.cls, o.data with
      | .type n, .fields vs =>
        if owners.contains n && vs[0]? == some (rawInt b) then
          rule "for.unpacks-the-owned-tuple"
          updateField r 0 .none
      | _, _ => pure ()) Q E s := by
    cases u with
    | ref b =>
      refine wpAny_bind (wpAny_load ho ?_)
      obtain ⟨cls, d, dt, sl⟩ := o
      cases hc
      cases dt with
      | fields vs => dsimp only; rw [hn]; exact wpAny_pure h
      | _ => exact wpAny_pure h
    | _ => exact wpAny_pure h
  cases t with
  | Tuple _ _ _ => exact main
  | List _ _ => exact main
  | _ => exact wpAny_pure h

theorem zipA_get {ys : List AV} (i : Nat) : (zipA xs ys)[i]? = xs[i]?.bind fun a => ys[i]?.bind fun b => some (.tuple [a, b]) := by
  induction xs generalizing ys i with
  | nil => rfl
  | cons a xs ih =>
    cases ys with
    | nil => cases i <;> simp [zipA]
    | cons b ys => cases i with
      | zero => rfl
      | succ i => exact ih i

/-- an iterator is made -/
theorem iter_ok (I : Inv T x σ) (r : Rep T x v u) {P : List AV → Prop} (h : Sat (items? σ v) P) {Q : Value → Shared → Prop}
    (kt : ∀ y a, Step Pe x y → Inv T y σ → x.h.get? a = none → Tmps y [a] → y.n = x.n → Ext x y → ItOk T y [a] 0 a (.val v) → Q (.ref a) y.s) : Wp T A (pyIter u) Q x := by
  have go (o : Obj) (hf : o.isFreed = false) (it : ItOk T (x.re (x.h.push o) x.s.toks (upc x.κ x.h.objs.size .tmp)) [x.h.objs.size] 0 x.h.objs.size (.val v)) : Q (.ref x.h.objs.size) { x.s with heap := x.h.push o } :=
    kt (x.re (x.h.push o) x.s.toks (upc x.κ x.h.objs.size .tmp)) _ Ext.push.step (Ext.push.inv I rfl) (get?_size _) (fun b hb => by rw [List.mem_singleton.mp hb]; exact ⟨upc_self, o, Heap.get?_push_size _ hf⟩) rfl Ext.push it
  have at0 {w : Value} {nm : String} : ItO (x.re (x.h.push { cls := .type nm, data := .fields #[w, .int 0 0] }) x.s.toks (upc x.κ x.h.objs.size .tmp)) x.h.objs.size nm w 0 := ⟨_, Heap.get?_push_size _ rfl, rfl, rfl⟩
  cases v with
  | list xs => exact r.elim fun l r => r.elim fun vs r => r.elim fun ep r => r.1 ▸ wpAny_pyIter_list (lobj_list r.2.g) (go _ rfl ⟨rfl, l, vs, ep, r.2.go Ext.push.go id Ext.push.repL, at0⟩)
  | tuple xs => exact r.elim fun l r => r.elim fun vs r => r.elim fun ep r => r.1 ▸ wpAny_pyIter_tuple ⟨_, r.2.g, rfl, ep, rfl⟩ (go _ rfl ⟨rfl, l, vs, ep, r.2.go Ext.push.go id Ext.push.repL, at0⟩)
  | loc l =>
    obtain ⟨rfl, hl⟩ := r
    exact onL_rep I (f := fun xs => some xs) (Pa := P) (by revert h; show Sat (match σ.get l with | some (.list xs) => some xs | _ => none) P → Sat (match σ.get l with | some (.list xs) => some xs | _ => none) P; exact id) fun xs vs ep _ q _ => wpAny_pyIter_list (lobj_list q.g) (go _ rfl ⟨rfl, hl, at0⟩)
  | str y =>
    obtain ⟨t, rfl⟩ := r
    cases ha : y.cps.all (· < 128)
    · exact wpAny_pyIter_wide ha (go _ rfl ⟨rfl, _, t, .inr rfl, at0⟩)
    · exact wpAny_pyIter_ascii ha (go _ rfl ⟨rfl, _, t, .inl rfl, at0⟩)
  | range j k =>
    obtain ⟨l, t, w, q, rfl, r⟩ := r
    refine wpAny_pyIter_range r.g (range_small r.b) (go _ rfl ⟨rfl, Int.natCast_nonneg _, ?_⟩)
    rw [rangeSize_nat]
    show (x.h.push _).get? x.h.objs.size = _
    rw [Heap.get?_push_size _ rfl]
    simp
  | _ => exact h.elim

/-- an iterator is its own iterator -/
theorem iter_self (r : ItOk T x O i a src) {Q : Value → Shared → Prop} (h : Q (.ref a) x.s) : Wp T A (pyIter (.ref a)) Q x := by
  cases src with
  | pairs ps =>
    obtain ⟨D, z, _⟩ := r
    exact wpAny_pyIter_zip z h
  | val v =>
    obtain ⟨_, r⟩ := r
    cases v with
    | list xs => exact r.elim fun l r => r.elim fun vs r => r.elim fun ep r => wpAny_pyIter_listiter r.2 h
    | tuple xs => exact r.elim fun l r => r.elim fun vs r => r.elim fun ep r => wpAny_pyIter_tupleiter r.2 h
    | loc l => exact wpAny_pyIter_listiter r.2 h
    | str y =>
      obtain ⟨ty, t, rfl | rfl, r⟩ := r
      · exact wpAny_pyIter_striter_ascii r h
      · exact wpAny_pyIter_striter_wide r h
    | range j k => exact wpAny_pyIter_rangeiter r.2 h
    | _ => exact r.elim

/-- what one turn of an iterator gives -/
structure Nx (T : Tp) (x : St) (O : List Addr) (i : Nat) (a : Addr) (src : Src) (b : AV) (v : Value) (y : St) : Prop where
  M : But (· ∈ O) x y
  n : y.n = x.n
  t : Tmps y O
  it : ItOk T y O (i + 1) a src
  r : Rep T y b v
/-- what comes behind: no more items, or one -/
structure NxK (T : Tp) (A : Around) (x : St) (O : List Addr) (i : Nat) (a : Addr) (src : Src) (t : Expr) (xs : List AV) (Q : Option Value → Shared → Prop) : Prop where
  kn : xs[i]? = none → ∀ y, But (· ∈ O) x y → y.n = x.n → Q none y.s
  ks : ∀ b v s₁, xs[i]? = some b → (∀ Q' : Unit → Shared → Prop, (∀ y, Nx T x O i a src b v y → Q' () y.s) → wpAny (model T.prog T.w) A (letOwnedTupleGo t (.ref a) v) Q' NoE s₁) → Q (some v) s₁

section
variable {t : Expr} {Q : Option Value → Shared → Prop} {b : AV} {h' : Heap} {tk : Nat}
theorem NxK.none1 (K : NxK T A x [a] i a src t xs Q) (hx : xs[i]? = none) (he : Heap.ExtBut a x.h h') : Q none { x.s with heap := h', toks := tk } :=
  K.kn hx (x.to h' tk) ⟨fun b o e q => he b o (fun e => q (e ▸ .head _)) e, fun _ _ _ => rfl, fun _ _ => rfl, Nat.le_refl _, rfl, rfl⟩ rfl
theorem NxK.some1 (K : NxK T A x [a] i a src t xs Q) (hx : xs[i]? = some b) (hO : Tmps x [a]) (hs : Heap.SameBut a x.h h') {o : Obj} {nm : String} (ho : h'.get? a = some o) (hc : o.cls = .type nm) (hn : owners.contains nm = false)
    (it : Go (fun b => b ∉ [a]) x (x.to h' tk) → (∀ b, x.κ b = .fz → b ∉ [a]) → ItOk T (x.to h' tk) [a] (i + 1) a src) (r : Rep T x b u) : Q (some u) { x.s with heap := h', toks := tk } := by
  have M : But (· ∈ [a]) x (x.to h' tk) := (But.same hs).more fun b e => e ▸ .head _
  exact K.ks b u _ hx fun Q' k => letGo_plain (s := (x.to h' tk).s) ho hc hn (k (x.to h' tk) ⟨M, rfl, fun b hb => ⟨(hO b hb).1, o, List.mem_singleton.mp hb ▸ ho⟩, it M.go fun _ => hO.fz, hO.rep M r⟩)

theorem next_list (hh : A.handled = none) (K : NxK T A x [a] i a src t xs Q) (hO : Tmps x [a]) {c : Col} {l : Addr} (q : SeqAt x lobj c l xs.length (RepL T x xs) vs ep) (it : ItO x a "list_iterator" (.ref l) i)
    (kt : ∀ h', Go (fun b => b ∉ [a]) x (x.to h' x.s.toks) → (∀ b, x.κ b = .fz → b ∉ [a]) → ItO (x.to h' x.s.toks) a "list_iterator" (.ref l) (i + 1) → ItOk T (x.to h' x.s.toks) [a] (i + 1) a src) : Wp T A (pyNext (.ref a)) Q x := by
  cases hx : xs[i]? with
  | none => exact wpAny_pyNext_list_end hh it (lobj_list q.g) (by rw [List.getElem?_toArray]; exact List.getElem?_eq_none_iff.mpr (q.q.length ▸ List.getElem?_eq_none_iff.mp hx)) fun h' he => K.none1 hx he
  | some b =>
    obtain ⟨b', w, hw, R, rfl⟩ := q.q.get (k := i) (Pa := fun d => d = b) (by rw [hx]; exact rfl)
    exact wpAny_pyNext_list_item it (lobj_list q.g) (by rw [List.getElem?_toArray]; exact hw) fun h' it' hs => it'.elim fun o ho => K.some1 (tk := x.s.toks) hx hO hs ho.1 ho.2.1 (by decide) (fun G hz => kt h' G hz it') R
theorem next_val (hh : A.handled = none) (I : Inv T x σ) (it : ItOk T x O i a (.val v)) (hO : Tmps x O) (hx : items? σ v = some xs) (K : NxK T A x O i a (.val v) t xs Q) : Wp T A (pyNext (.ref a)) Q x := by
  obtain ⟨rfl, it⟩ := it
  cases v with
  | list ys =>
    cases hx
    obtain ⟨l, vs, ep, q, it⟩ := it
    exact next_list hh K hO q it fun h' G hz it' => ⟨rfl, l, vs, ep, q.go G (hz _ q.c) (RepL.go' G hz), it'⟩
  | tuple ys =>
    cases hx
    obtain ⟨l, vs, ep, q, it⟩ := it
    cases hx : xs[i]? with
    | none => exact wpAny_pyNext_tuple_end hh it ⟨_, q.g, rfl, ep, rfl⟩ (by rw [List.getElem?_toArray]; exact List.getElem?_eq_none_iff.mpr (q.q.length ▸ List.getElem?_eq_none_iff.mp hx)) fun h' he => K.none1 hx he
    | some b =>
      obtain ⟨b', w, hw, R, rfl⟩ := q.q.get (k := i) (Pa := fun d => d = b) (by rw [hx]; exact rfl)
      exact wpAny_pyNext_tuple_item it ⟨_, q.g, rfl, ep, rfl⟩ (by rw [List.getElem?_toArray]; exact hw) fun h' it' hs => it'.elim fun o ho => K.some1 (tk := x.s.toks) hx hO hs ho.1 ho.2.1 (by decide) (fun G hz => ⟨rfl, l, vs, ep, q.go G (hz _ q.c) (RepL.go' G hz), it'⟩) R
  | loc l =>
    refine onL_rep I (l := l) (f := fun ys => some ys) (Pa := fun ys => ys = xs) (show Sat (items? σ (.loc l)) fun ys => ys = xs by rw [hx]; exact rfl) fun ys vs ep hg q e => ?_
    cases (show ys = xs from e)
    exact next_list hh K hO q it.2 fun h' G hz it' => ⟨rfl, it.1, it'⟩
  | str y =>
    cases hx
    obtain ⟨ty, t', hty, it⟩ := it
    have e : (y.cps.toList.map fun c => AV.str ⟨#[c]⟩)[i]? = y.cps[i]?.map fun c => AV.str ⟨#[c]⟩ := by rw [List.getElem?_map, Array.getElem?_toList]
    cases hi : y.cps[i]? with
    | none =>
      rw [hi] at e
      rcases hty with rfl | rfl
      · exact wpAny_pyNext_ascii_end hh it hi fun h' he => K.none1 e he
      · exact wpAny_pyNext_wide_end hh it hi fun h' he => K.none1 e he
    | some ch =>
      rw [hi] at e
      rcases hty with rfl | rfl
      · exact wpAny_pyNext_ascii_item it hi fun h' it' hs => it'.elim fun o ho => K.some1 e hO hs ho.1 ho.2.1 (by decide) (fun G hz => ⟨rfl, _, t', .inl rfl, it'⟩) ⟨_, rfl⟩
      · exact wpAny_pyNext_wide_item it hi fun h' it' hs => it'.elim fun o ho => K.some1 e hO hs ho.1 ho.2.1 (by decide) (fun G hz => ⟨rfl, _, t', .inr rfl, it'⟩) ⟨_, rfl⟩
  | range j k =>
    cases hx
    by_cases hi : i < (k - j).toNat
    · refine wpAny_pyNext_range_item it.2 (Int.sub_pos_of_lt (Int.ofNat_lt.mpr hi)) fun h' it' hs => K.some1 (b := .int (j + i)) (by rw [List.getElem?_map, List.getElem?_range hi]; rfl) hO hs it' rfl (by decide) (fun G hz => ⟨rfl, Int.ofNat_le.mpr hi, ?_⟩) ⟨_, rfl⟩
      rw [Int.natCast_succ, ← Int.add_assoc, ← Int.sub_sub]
      exact it'
    · exact wpAny_pyNext_range_end hh it.2 (Int.sub_nonpos_of_le (Int.ofNat_le.mpr (Nat.not_lt.mp hi))) fun h' he => K.none1 (by rw [List.getElem?_map, List.getElem?_eq_none (by rw [List.length_range]; exact Nat.not_lt.mp hi)]; rfl) he
  | _ => exact it.elim
end
end
end Mine
namespace Mine
open PySem

section
variable {T : Tp} {A : Around} {O : List Addr} {x y : St} {σ : Sto} {i : Nat} {a : Addr} {ps : List AV}

/-- what stands elsewhere than the four places stays -/
theorem zip_keep {h h' : Heap} {TI TO i1 i2 : Addr} (hk : ∀ c o, c ≠ a → c ≠ TO → c ≠ i1 → c ≠ i2 → h.get? c = some o → h'.get? c = some o) {c : Addr} {o : Obj} (e : h.get? c = some o) (hc : c ∉ [a, TI, TO, i1, i2]) : h'.get? c = some o :=
  hk c o (fun q => hc (q ▸ .head _)) (fun q => hc (q ▸ .tail _ (.tail _ (.head _)))) (fun q => hc (q ▸ .tail _ (.tail _ (.tail _ (.head _))))) (fun q => hc (q ▸ .tail _ (.tail _ (.tail _ (.tail _ (.head _)))))) e
theorem get_none {xs : List AV} {vs : List Value} (r : RepL T x xs vs) (h : xs[i]? = none) : vs.toArray[i]? = none := by
  rw [List.getElem?_toArray]; exact List.getElem?_eq_none_iff.mpr (r.length ▸ List.getElem?_eq_none_iff.mp h)
theorem get_some {xs : List AV} {vs : List Value} {b : AV} (r : RepL T x xs vs) (h : xs[i]? = some b) : ∃ w, vs.toArray[i]? = some w ∧ Rep T x b w := by
  obtain ⟨b', w, hw, R, rfl⟩ := r.get (k := i) (Pa := fun d => d = b) (by rw [h]; exact rfl)
  exact ⟨w, by rw [List.getElem?_toArray]; exact hw, R⟩

theorem next_zip (hh : A.handled = none) (it : ZipIt T x i a O ps) (hO : Tmps x O) {ts : List Expr} {j : Nat} {tp : Pos} {Q : Option Value → Shared → Prop} (K : NxK T A x O i a (.pairs ps) (.Tuple ts j tp) ps Q) : Wp T A (pyNext (.ref a)) Q x := by
  obtain ⟨D, z, hI, ⟨p, q, hT⟩, h1, h2, s1, s2⟩ := it
  rename_i TI TO i1 i2 l1 l2 xs ys vs us e1 e2
  have e := zipA_get (xs := xs) (ys := ys) i
  have stop (hend : vs.toArray[i]? = none ∨ us.toArray[i]? = none) (hn : (zipA xs ys)[i]? = none) : Wp T A (pyNext (.ref a)) Q x :=
    wpAny_pyNext_zip_end hh D z hI hT h1 h2 (lobj_list s1.g) (lobj_list s2.g) hend fun h' hk => K.kn hn (x.to h' x.s.toks) ⟨fun b o e hb => zip_keep hk e hb, fun _ _ _ => rfl, fun _ _ => rfl, Nat.le_refl _, rfl, rfl⟩ rfl
  cases hx : xs[i]? with
  | none => exact stop (.inl (get_none s1.q hx)) (by rw [e, hx]; rfl)
  | some b1 =>
    cases hy : ys[i]? with
    | none => exact stop (.inr (get_none s2.q hy)) (by rw [e, hx, hy]; rfl)
    | some b2 =>
      obtain ⟨v1, hv1, r1⟩ := get_some s1.q hx
      obtain ⟨v2, hv2, r2⟩ := get_some s2.q hy
      refine wpAny_pyNext_zip_item D z hI hT h1 h2 (lobj_list s1.g) (lobj_list s2.g) hv1 hv2 fun h' a1 a2 a3 a4 a5 a6 hk => K.ks (.tuple [b1, b2]) _ _ (by rw [e, hx, hy]; rfl) fun Q' k => wpAny_letOwnedTupleGo_zip a1 fun h'' hz'' hs'' => ?_
      have hk' : ∀ c o, c ≠ a → c ≠ TO → c ≠ i1 → c ≠ i2 → x.h.get? c = some o → h''.get? c = some o := fun c o q1 q2 q3 q4 e => (hs''.2 c q1).trans (hk c o q1 q2 q3 q4 e)
      have M : But (· ∈ [a, TI, TO, i1, i2]) x (x.re h'' x.s.toks (upc x.κ x.h.objs.size .fz)) := ⟨fun b o e hb => zip_keep hk' e hb, fun _ _ e => upc_ne (ne_size e), fun _ _ => rfl, Nat.le_refl _, rfl, rfl⟩
      have G := M.go
      have hz : ∀ b, x.κ b = .fz → b ∉ [a, TI, TO, i1, i2] := fun _ => hO.fz
      have gI : IsPair h'' TI (.ref i1) (.ref i2) := hk' TI _ D.TIz D.TITO D.TIi1 D.TIi2 hI
      have gT : IsPair h'' TO v1 v2 := (hs''.2 TO D.TOz).trans a2
      have j1 := a3.extBut hs''.extBut D.i1z
      have j2 := a4.extBut hs''.extBut D.i2z
      refine k (x.re h'' x.s.toks (upc x.κ x.h.objs.size .fz)) ⟨M, rfl, fun b hb => ⟨(hO b hb).2.elim fun _ e => (upc_ne (ne_size e)).trans (hO b hb).1, ?_⟩, ?_, ?_⟩
      · rcases List.mem_cons.mp hb with rfl | hb
        · exact ⟨_, hz''⟩
        rcases List.mem_cons.mp hb with rfl | hb
        · exact ⟨_, gI⟩
        rcases List.mem_cons.mp hb with rfl | hb
        · exact ⟨_, gT⟩
        rcases List.mem_cons.mp hb with rfl | hb
        · exact j1.elim fun o h => ⟨o, h.1⟩
        cases List.mem_singleton.mp hb
        exact j2.elim fun o h => ⟨o, h.1⟩
      · exact .mk D hz'' gI ⟨_, _, gT⟩ j1 j2 (s1.go G (hz _ s1.c) (RepL.go' G hz)) (s2.go G (hz _ s2.c) (RepL.go' G hz))
      · exact ⟨_, [v1, v2], 0, rfl, upc_self, (hs''.2 _ fun e => ne_size z e.symm).trans a5, by show 2 ≤ 2 ^ 24; decide, .cons (hO.rep M r1) (.one (hO.rep M r2))⟩
theorem next_ok (hh : A.handled = none) (I : Inv T x σ) {src : Src} {t : Expr} {xs : List AV} (it : ItOk T x O i a src) (hO : Tmps x O) (hx : src.items σ = some xs) (hf : src.fits t = true) {Q : Option Value → Shared → Prop} (K : NxK T A x O i a src t xs Q) :
    Wp T A (pyNext (.ref a)) Q x := by
  cases src with
  | pairs ps =>
    cases hx
    cases t with
    | Tuple ts j tp => exact next_zip hh it hO K
    | _ => exact Bool.noConfusion hf
  | val v => exact next_val hh I it hO hx K
end
end Mine
namespace Mine
open PySem

/-- what an assignment, or a statement, leaves -/
structure Bd (T : Tp) (W : Addr → Prop) (env : Env) (sc : Scope) (x : St) (σ : Sto) (m : Fm) (y : St) : Prop where
  S : Step (Ps W) x y
  I : Inv T y σ
  F : FrOk T env sc m y

section
variable {T : Tp} {A : Around} {W : Addr → Prop} {env : Env} {sc : Scope} {m m' : Fm} {x y z : St} {σ σ' : Sto} {P : Fm → Prop} {v : AV} {u : Value} {Q : Unit → Shared → Prop}

theorem Bd.then (S : Step (Ps W) x y) (b : Bd T W env sc y σ m z) : Bd T W env sc x σ m z := ⟨S.ts b.S, b.I, b.F⟩
theorem Step.more {W' : Addr → Prop} (S : Step (Ps W) x y) (h : ∀ a, W a → W' a) : Step (Ps W') x y := S.mono fun a _ q => q.elim .inl fun q => .inr ⟨h a q.1, q.2⟩

theorem setv_may {n : Str} (h : Sat (setv sc m n v) P) : mayBind sc n ∧ P (m.set n v) := by
  unfold mayBind
  revert h
  show Sat (match sc.names.lookup n with | some .local | some .cell => some (m.set n v) | _ => none) P → _
  rcases sc.names.lookup n with _ | (_ | _ | _ | _ | _)
  · exact fun h => h.elim
  · exact fun h => ⟨.inl rfl, h⟩
  · exact fun h => ⟨.inr rfl, h⟩
  · exact fun h => h.elim
  · exact fun h => h.elim
  · exact fun h => h.elim
theorem assignName_ok (hW : ∀ a, Owns env sc a → W a) (I : Inv T x σ) (F : FrOk T env sc m x) {n : Str} {p : Pos} (r : Rep T x v u) (h : Sat (setv sc m n v) P) (kt : ∀ m' y, P m' → Bd T W env sc x σ m' y → Q () y.s) :
    Wp T A (assign (.Name n p) env u) Q x :=
  wpAny_assign_Name (bind_ok I F (setv_may h).1 r fun y S I' F' _ => kt _ y (setv_may h).2 ⟨S.more hW, I', F'⟩)
theorem asName_is {t : Expr} {n : Str} (h : asName t = some n) : ∃ p, t = .Name n p := by
  cases t with
  | Name n p => exact ⟨p, congrArg (Expr.Name · p) (Option.some.inj h)⟩
  | _ => exact none_some (o := none) rfl h
theorem bindName_is {t : Expr} (h : Sat (bindName sc t v m) P) : ∃ n p, t = .Name n p ∧ Sat (setv sc m n v) P :=
  (Sat.bindI h).mk'.elim fun n h => (asName_is h.1).elim fun p e => ⟨n, p, e, h.2⟩
theorem bindNames_ok (hW : ∀ a, Owns env sc a → W a) {ts : List Expr} {vs : List AV} {us : List Value} (I : Inv T x σ) (F : FrOk T env sc m x) (r : RepL T x vs us) (h : Sat (bindNames sc ts vs m) P)
    (kt : ∀ m' y, P m' → Bd T W env sc x σ m' y → Q () y.s) : Wp T A (assignInOrder ((assignEach ts env).map (·.2)) us) Q x := by
  induction ts generalizing vs us m x with
  | nil => exact on0_rep (C := fun us => Wp T A (assignInOrder _ us) Q x) r h fun h => PyProof.Rows.assignInOrder_nil (kt _ x h ⟨.refl, I, F⟩)
  | cons t ts ih =>
    cases vs with
    | nil => exact h.elim
    | cons v vs =>
      obtain ⟨n, p, rfl, h'⟩ := bindName_is h.bindI
      exact repL_cons (C := fun us => Wp T A (assignInOrder _ us) Q x) r fun u us r1 r2 => PyProof.Rows.assignInOrder_cons (assignName_ok hW I F r1 h' fun m1 y h b => ih b.I b.F (r2.steps b.S) h fun m2 z h b' => kt m2 z h (b'.then b.S))
theorem bindNames_shape {ts : List Expr} {vs : List AV} (h : Sat (bindNames sc ts vs m) P) : (assignEach ts env).length = vs.length ∧ (assignEach ts env).findIdx? (·.1) = none := by
  induction ts generalizing vs m with
  | nil =>
    cases vs with
    | nil => exact ⟨rfl, rfl⟩
    | cons v vs => exact h.elim
  | cons t ts ih =>
    cases vs with
    | nil => exact h.elim
    | cons v vs =>
      obtain ⟨n, p, rfl, h'⟩ := bindName_is h.bindI
      obtain ⟨_, _, h⟩ := h'.mk'
      have e := ih h
      refine ⟨congrArg (· + 1) e.1, ?_⟩
      show List.findIdx? (·.1) ((false, assign (.Name n p) env) :: assignEach ts env) = none
      rw [List.findIdx?_cons, e.2]; rfl

/-- a target takes a value -/
theorem bindT_ok (hh : A.handled = none) (hW : ∀ a, Owns env sc a → W a) (I : Inv T x σ) (F : FrOk T env sc m x) {t : Expr} (r : Rep T x v u) (h : Sat (bindT sc t v m) P) (kt : ∀ m' y, P m' → Bd T W env sc x σ m' y → Q () y.s) :
    Wp T A (assign t env u) Q x := by
  cases t with
  | Name n p => exact assignName_ok hW I F r h kt
  | Tuple ts j p =>
    exact onTup_rep (C := fun u => Wp T A (assign (.Tuple ts j p) env u) Q x) r h fun vs a us ep q h => by
      have sh := bindNames_shape (env := env) h
      refine wpAny_assign_Tuple hh ⟨_, q.g, rfl, ep, rfl⟩ (by rw [sh.1, ← q.q.length]; rfl) sh.2 fun h' hext => ?_
      have M : Ext x (x.to h' x.s.toks) := .old (fun b o e => hext b o (ne_size e) e) fun _ _ _ => rfl
      exact bindNames_ok hW (M.inv I rfl) (F.go M.go (fun _ _ => id) fun _ _ _ => id) (M.repL q.q) h fun m' y h b => kt m' y h (b.then M.step)
  | _ => exact h.elim

/-- less may be known -/
theorem FrOk.weak (F : FrOk T env sc m' x) (hm : ∀ n v, m n = some v → m' n = some v) : FrOk T env sc m x :=
  { F with
    ns := F.ns.elim fun mL q => ⟨mL, q.1, fun n v e k => q.2 n v (hm n v e) k⟩
    cel := fun n v e k => F.cel n v (hm n v e) k }
theorem set_fresh {m₀ : Fm} {n : Str} (h : (m₀ n).isNone = true) (hm : ∀ x v, m₀ x = some v → m x = some v) : ∀ x w, m₀ x = some w → m.set n v x = some w := fun y w hy => by
  unfold Fm.set
  rw [if_neg fun q => by rw [← q, hy] at h; cases h]
  exact hm y w hy
theorem names_fresh {ts : List Expr} {vs : List AV} {m₀ : Fm} (h : Sat (bindNames sc ts vs m) P) (hf : ts.all (freshN m₀) = true) (hm : ∀ x v, m₀ x = some v → m x = some v) :
    Sat (bindNames sc ts vs m) fun m' => P m' ∧ ∀ x v, m₀ x = some v → m' x = some v := by
  induction ts generalizing vs m with
  | nil =>
    cases vs with
    | nil => exact ⟨h, hm⟩
    | cons v vs => exact h.elim
  | cons t ts ih =>
    cases vs with
    | nil => exact h.elim
    | cons v vs =>
      have hf := Bool.and_eq_true_iff.mp hf
      obtain ⟨n, p, rfl, hs⟩ := bindName_is h.bindI
      show Sat ((setv sc m n v).bind fun m => bindNames sc ts vs m) _
      obtain ⟨m1, e, h⟩ := hs.mk'
      rw [e]
      refine ih h hf.2 ?_
      have e2 : m1 = m.set n v := ((setv_may (P := fun m' => m1 = m') (by rw [e]; exact rfl)).2)
      exact e2 ▸ set_fresh hf.1 hm
theorem fresh_keeps {t : Expr} (h : Sat (bindT sc t v m) P) (hf : freshT m t = true) : Sat (bindT sc t v m) fun m' => P m' ∧ ∀ x w, m x = some w → m' x = some w := by
  cases t with
  | Name n p =>
    obtain ⟨m1, e, h⟩ := Sat.mk' (show Sat (setv sc m n v) P from h)
    show Sat (setv sc m n v) _
    rw [e]
    have e2 : m1 = m.set n v := ((setv_may (P := fun m' => m1 = m') (by rw [e]; exact rfl)).2)
    exact ⟨h, e2 ▸ set_fresh hf fun _ _ h => h⟩
  | Tuple ts j p =>
    cases v with
    | tuple vs => exact names_fresh (m₀ := m) (show Sat (bindNames sc ts vs m) P from h) hf fun _ _ h => h
    | _ => exact h.elim
  | _ => exact h.elim
end
end Mine
namespace Mine
open PySem

section
variable {M : Model} {A : Around} {E : Value → Shared → Prop} {s : Shared}
theorem wp_bind {α β : Type} {p : Sem α} {f : α → Sem β} {Q : β → Shared → Prop} {Q' : α → Shared → Prop} (h : wpAny M A p Q' NoE s) (k : ∀ a s, Q' a s → wpAny M A (f a) Q NoE s) : wpAny M A (p >>= f) Q NoE s :=
  wpAny_bind (wpAny_mono h k fun _ _ z => z)

/-- the tests of a clause -/
noncomputable def testsOf (ifs : List Expr) (env : Env) : Sem Bool := forIn ifs true fun c r => if r = true then do let ok ← isTrue c env (eval c env); pure (ForInStep.yield ok) else pure (ForInStep.yield r)
/-- one turn of a clause up to its tests -/
noncomputable def TurnW (M : Model) (A : Around) (t : Expr) (it : Value) (ifs : List Expr) (env : Env) (N : Shared → Prop) (K : Bool → Shared → Prop) (s : Shared) : Prop :=
  wpAny M A (pyNext it) (fun r s₁ => match r with
    | none => N s₁
    | some v => wpAny M A (letOwnedTupleGo t it v) (fun _ s₂ => wpAny M A (assign t env v) (fun _ s₃ => wpAny M A (testsOf ifs env) K NoE s₃) NoE s₂) NoE s₁) NoE s
/-- a comprehension's end of one turn: what is laid into the result -/
noncomputable def EmitW (M : Model) (A : Around) (acc : Value) (env : Env) (Q : Shared → Prop) (s : Shared) : Expr → Prop
  | .ListComp elt _ _ _ => wpAny M A (eval elt env) (fun x s₁ => wpAny M A (call (.builtin "list.append") [acc, x]) (fun _ s₂ => Q s₂) NoE s₁) NoE s
  | .DictComp k v _ _ _ => ∃ D, acc = .ref D ∧ wpAny M A (eval k env) (fun x s₁ => wpAny M A (eval v env) (fun y s₂ => wpAny M A (dictSet D x y) (fun _ s₃ => Q s₃) NoE s₂) NoE s₁) NoE s
  | _ => False
/-- the next clause, or the end of the turn -/
noncomputable def NextW (M : Model) (A : Around) (e : Expr) (d : Nat) (acc : Value) (env : Env) (Q : Shared → Prop) (s : Shared) (g : Comprehension) : Prop :=
  g.is_async = 0 ∧ wpAny M A (eval g.iter env) (fun x s₁ => foldedSetIterable g.iter env x = pure x ∧
    wpAny M A (pyIter x) (fun it s₂ => codeAny M A (.compStart e (d + 1) it acc env) (fun r s₃ => match r with | .ok _ => Q s₃ | .error _ => False) s₂) NoE s₁) NoE s
noncomputable def WorkW (M : Model) (A : Around) (e : Expr) (d : Nat) (acc : Value) (env : Env) (Q : Shared → Prop) (s : Shared) : Prop :=
  (∃ g, (clausesOf e)[d + 1]? = some g ∧ NextW M A e d acc env Q s g) ∨ ((clausesOf e)[d + 1]? = none ∧ EmitW M A acc env Q s e)
end

section
variable {prog : Program} {w : World} {A : Around} {e : Expr} {d : Nat} {it acc : Value} {env : Env} {s : Shared} {t iter : Expr} {ifs : List Expr}

theorem turn_wp (he : isComp e = true) (hg : (clausesOf e)[d]? = some ⟨t, iter, ifs, 0⟩) {Q : Fin → Shared → Prop}
    (h : TurnW (model prog w) A t it ifs env (Q (.done .next)) (fun ok s₄ => if ok = true then WorkW (model prog w) A e d acc env (Q (.again (.compLoop e d it acc env))) s₄ else Q (.again (.compLoop e d it acc env)) s₄) s) :
    wpAny (model prog w) A (compTurn e d it acc env) Q NoE s := by
  delta compTurn
  split
  rename_i gens emit hge
  have key : gens = clausesOf e ∧ ∀ (Q : Shared → Prop) s, EmitW (model prog w) A acc env Q s e → wpAny (model prog w) A emit (fun _ s => Q s) NoE s := by
    clear h hg
    cases e with
    | ListComp elt gens sc p =>
      cases hge
      exact ⟨rfl, fun Q s h => wp_bind h fun x s₅ h₅ => wp_bind h₅ fun _ s₆ h₆ => wpAny_pure h₆⟩
    | SetComp elt gens sc p =>
      cases hge
      exact ⟨rfl, fun Q s h => h.elim⟩
    | DictComp k v gens sc p =>
      cases hge
      exact ⟨rfl, fun Q s h => h.elim fun D h => by
        cases h.1
        exact wp_bind h.2 fun x s₅ h₅ => wpAny_bind (wpAny_holding (wpAny_mono h₅ (fun y s₆ h₆ => wpAny_bind (wpAny_standAt (wpAny_holding h₆))) fun _ _ z => z))⟩
    | _ => exact Bool.noConfusion he
  obtain ⟨rfl, hemit⟩ := key
  clear hge
  rw [hg]
  refine wpAny_bind (wpAny_standAt (wp_bind h fun r s₁ h₁ => ?_))
  cases r with
  | none => exact wpAny_pure h₁
  | some v =>
    refine wp_bind h₁ fun _ s₂ h₂ => wp_bind h₂ fun _ s₃ h₃ => wp_bind h₃ fun ok s₄ h₄ => ?_
    cases ok with
    | false => exact wpAny_pure h₄
    | true =>
      rcases h₄ with ⟨g, hn, ha, h₄⟩ | ⟨hn, h₄⟩
      · obtain ⟨t', iter', ifs', a⟩ := g
        cases (show a = 0 from ha)
        rw [hn]
        refine wp_bind h₄ fun x s₅ h₅ => wpAny_bind (wpAny_standAt (wpAny_bind (wpAny_of_eq h₅.1 (wpAny_bind (wpAny_holding (wpAny_mono h₅.2 (fun it' s₆ h₆ => wpAny_bind (wpAny_runOwn (codeAny_mono h₆ fun r s₇ h₇ => ?_))) fun _ _ z => z))))))
        cases r with
        | ok f => exact wpAny_pure h₇
        | error x => exact h₇.elim
      · rw [hn]
        exact wp_bind (hemit _ _ h₄) fun _ s₆ h₆ => wpAny_pure h₆

/-- a comprehension's code is no frame of its own -/
structure CompCode (A : Around) (e : Expr) (d : Nat) (it acc : Value) (env : Env) : Prop where
  q : (Code.compLoop e d it acc env).quiet = true
  u : A.under (.compLoop e d it acc env) = A
  f : (Code.compLoop e d it acc env).isFrame = false
  u2 : A.under (.compStart e d it acc env) = A
  f2 : (Code.compStart e d it acc env).isFrame = false
theorem comp_code (he : isComp e = true) : CompCode A e d it acc env := by
  cases e with
  | ListComp _ _ _ _ => exact ⟨rfl, rfl, rfl, rfl, rfl⟩
  | SetComp _ _ _ _ => exact ⟨rfl, rfl, rfl, rfl, rfl⟩
  | DictComp _ _ _ _ _ => exact ⟨rfl, rfl, rfl, rfl, rfl⟩
  | _ => exact Bool.noConfusion he
theorem wp_else {M : Model} {E : Value → Shared → Prop} {b : Bool} (h : b = false) {α : Type} {p q : Sem α} {Q : α → Shared → Prop} (k : wpAny M A q Q E s) : wpAny M A (if b = true then p else q) Q E s := by
  subst h; exact k
/-- a comprehension's start: the iterator's own iterator, or none -/
theorem start_wp (he : isComp e = true) (hg : (clausesOf e)[d]? = some ⟨t, iter, ifs, 0⟩) {R : Result → Shared → Prop}
    (hi : wpAny (model prog w) A (pyIter it) (fun x s₁ => x = it ∧ s₁ = s) NoE s)
    (h : codeAny (model prog w) A (.compLoop e d it acc env) R s) : codeAny (model prog w) A (.compStart e d it acc env) R s := by
  have cc := comp_code (A := A) (d := d) (it := it) (acc := acc) (env := env) he
  refine codeAny_of_tree ?_
  rw [cc.u2]
  refine wp_else cc.f2 (wpAny_onRaise (wpAny_mono (E := NoE) (Q := fun fin s' => match fin with | .done f => R (.ok f) s' | .again c' => c'.quiet = true ∧ codeAny (model prog w) A c' R s') ?_ (fun _ _ q => q) fun _ _ z => z.elim))
  delta compStart
  rw [hg]
  refine wpAny_bind (wpAny_askSetting (wpAny_ite ?_))
  split
  · first
      | exact wpAny_pure (And.intro cc.q h)
      | exact wpAny_bind (wpAny_pure (wpAny_pure (And.intro cc.q h)))
  · refine wpAny_bind (wpAny_rule (wpAny_bind (wpAny_standAt (wp_bind hi fun x s₁ q => ?_))))
    cases q.1
    cases q.2
    exact wpAny_pure (And.intro cc.q h)
/-- the turns -/
theorem loop_wp (he : isComp e = true) (hg : (clausesOf e)[d]? = some ⟨t, iter, ifs, 0⟩) {R : Result → Shared → Prop} (I : Nat → Shared → Prop)
    (turn : ∀ n s, I n s → ∀ G : Shared → Prop, (∀ m s, m < n → I m s → G s) →
      TurnW (model prog w) A t it ifs env (R (.ok .next)) (fun ok s₄ => if ok = true then WorkW (model prog w) A e d acc env G s₄ else G s₄) s)
    (n : Nat) (h : I n s) : codeAny (model prog w) A (.compLoop e d it acc env) R s := by
  have cc := comp_code (A := A) (d := d) (it := it) (acc := acc) (env := env) he
  refine codeAny_loop cc.q I (fun n s hI => ?_) n h
  rw [cc.u]
  exact wp_else cc.f (wpAny_onRaise (wpAny_mono (turn_wp (Q := fun fin s' => match fin with | .done f => R (.ok f) s' | .again c' => c' = .compLoop e d it acc env ∧ ∃ m, m < n ∧ I m s') he hg (turn n s hI _ fun m s h i => ⟨rfl, m, h, i⟩)) (fun _ _ q => q) fun _ _ z => z.elim))
end
end Mine
namespace Mine
open PySem

/-- what is left of a walk over items -/
theorem iterA_turn {β : Type} {rd : β → Option (List AV)} {step : AV → β → Option (Fl × β)} {n i : Nat} {b : β} {P : Fl × β → Prop} (h : Sat (iterA rd step n i b) P) :
    ∃ ys, rd b = some ys ∧ (ys[i]? = none → P (.next, b)) ∧ ∀ v, ys[i]? = some v → ∃ j, j < n ∧ Sat (step v b) fun r => Sat (endA (iterA rd step j (i + 1)) r) P := by
  cases n with
  | zero =>
    obtain ⟨ys, e, h⟩ := h.bindI.mk'
    exact ⟨ys, e, fun _ => h.iteI.2, fun v hv => none_some (List.getElem?_eq_none h.iteI.1) hv⟩
  | succ n =>
    obtain ⟨ys, e, h⟩ := h.bindI.mk'
    refine ⟨ys, e, ?_, ?_⟩
    · intro hv; rw [hv] at h; exact h
    · intro v hv; rw [hv] at h; exact ⟨n, Nat.lt_succ_self n, h.bindI⟩

noncomputable def TrsOk (T : Tp) (c : Cfg) (Φ : Fns) (k : Nat) (es : List Expr) : Prop := Ok T k (trs c Φ es) (testsOf es) BEq

/-- how the result in the making stands in the heap -/
structure AccRel (D : Addr) (R : St → Acc → Prop) : Prop where
  go : ∀ {C : Addr → Prop} {x y acc}, R x acc → Go C x y → (∀ a, x.κ a = .fz → C a) → C D → R y acc
  alive : ∀ {x acc}, R x acc → ∃ o, x.h.get? D = some o
/-- it stands, and it is nobody's -/
structure AccAt (D : Addr) (R : St → Acc → Prop) (x : St) (acc : Acc) : Prop where
  c : x.κ D = .tmp
  r : R x acc
/-- what a comprehension's part leaves -/
structure CP (T : Tp) (D : Addr) (R : St → Acc → Prop) (env : Env) (sc : Scope) (m : Fm) (x : St) (r : Acc × Sto) (y : St) : Prop where
  b : Bd T (fun a => a = D ∨ Owns env sc a) env sc x r.2 m y
  a : AccAt D R y r.1
noncomputable def RestOk (T : Tp) (k : Nat) (e : Expr) (csc : Scope) (D : Addr) (R : St → Acc → Prop) (d : Nat) (rest : Fm → Acc → Sto → Option (Acc × Sto)) : Prop :=
  ∀ (A : Around) (env : Env) (m : Fm) (x : St) (σ : Sto) (acc : Acc) (P : Acc × Sto → Prop) (Q : Shared → Prop), Cx T k A env csc m x σ → AccAt D R x acc → Sat (rest m acc σ) P → (∀ r y, P r → CP T D R env csc m x r y → Q y.s) →
    WorkW (model T.prog T.w) A e d (.ref D) env Q x.s

section
variable {T : Tp} {c : Cfg} {Φ : Fns} {k : Nat} {A : Around} {env : Env} {sc csc : Scope} {m : Fm} {x x₀ y z : St} {σ : Sto} {D : Addr} {R : St → Acc → Prop} {e : Expr} {d : Nat} {O : List Addr} {i : Nat} {a : Addr} {src : Src} {W : Addr → Prop} {acc : Acc}

theorem tests_false {M : Model} {E : Value → Shared → Prop} {s : Shared} {Q : Bool → Shared → Prop} (h : Q false s) (es : List Expr) :
    wpAny M A (forIn es false fun c r => if r = true then do let ok ← isTrue c env (eval c env); pure (ForInStep.yield ok) else pure (ForInStep.yield r)) Q E s := by
  induction es with
  | nil => rw [List.forIn_nil]; exact wpAny_pure h
  | cons e es ih =>
    rw [List.forIn_cons]
    exact wpAny_bind (wpAny_pure ih)
theorem trs_nil : TrsOk T c Φ k [] := fun A env sc m x σ P Q C h kt => wpAny_pure (kt _ _ x h ⟨.refl, C.I, rfl⟩)
theorem trs_cons {e : Expr} {es : List Expr} (he : TrOk T c Φ k e) (hs : TrsOk T c Φ k es) : TrsOk T c Φ k (e :: es) := fun A env sc m x σ P Q C h kt => by
  show Wp T A (forIn (e :: es) true _) Q x
  rw [List.forIn_cons]
  refine wpAny_bind (wpAny_bind (Ok.at he C h.bindI fun r u y h e => wpAny_pure ?_))
  obtain ⟨b, σ'⟩ := r
  obtain rfl : b = u := e.R
  cases b
  · exact tests_false (kt _ _ y h ⟨e.S, e.I, rfl⟩) es
  · exact Ok.at hs (C.step e) h (kt.on e.S)

theorem Owns.col (F : FrOk T env csc m x) {a : Addr} (h : Owns env csc a) : ∃ L, x.κ a = .fr L := by
  rcases h with rfl | ⟨n, h1, h2⟩
  · exact ⟨_, F.col⟩
  · obtain ⟨b, u, g⟩ := F.own n h1
    cases h2.symm.trans g.l
    exact ⟨_, g.c⟩
theorem Owns.tmp (F : FrOk T env csc m x) {a : Addr} (h : Owns env csc a) (e : x.κ a = .tmp) : False := (h.col F).elim fun _ q => Col.noConfusion (q.symm.trans e)

theorem AccAt.go (hR : AccRel D R) (r : AccAt D R x acc) {C : Addr → Prop} (G : Go C x y) (h : ∀ a, x.κ a = .fz → C a) (hD : C D) : AccAt D R y acc :=
  (hR.alive r.r).elim fun o e => ⟨(G.col D o e hD).trans r.c, hR.go r.r G h hD⟩
theorem AccAt.step (hR : AccRel D R) (r : AccAt D R x acc) (S : Step Pe x y) : AccAt D R y acc := r.go hR S.goE (fun _ => ob_fz) (ob_tmp r.c)
theorem AccAt.frame (hR : AccRel D R) (F : FrOk T env csc m x) (r : AccAt D R x acc) (S : Step (Ps (Owns env csc)) x y) : AccAt D R y acc := r.go hR S.goS (fun _ => .inl) (.inr ⟨ob_tmp r.c, fun h => h.tmp F r.c⟩)
theorem AccAt.moved (hR : AccRel D R) (r : AccAt D R x acc) (hO : Tmps x O) (hD : D ∉ O) (M : But (· ∈ O) x y) : AccAt D R y acc := r.go hR M.go (fun _ => hO.fz) hD
theorem ItOk.step (r : ItOk T x O i a src) (hO : Tmps x O) (S : Step Pe x y) : ItOk T y O i a src := r.go S.goE (fun _ => ob_fz) fun b hb => ob_tmp (hO b hb).1
theorem ItOk.steps (r : ItOk T x O i a src) (hO : Tmps x O) (hW : ∀ b ∈ O, ¬ W b) (S : Step (Ps W) x y) : ItOk T y O i a src := r.go S.goS (fun _ => .inl) fun b hb => .inr ⟨ob_tmp (hO b hb).1, hW b hb⟩

/-- ahead of a turn -/
structure CI (T : Tp) (k : Nat) (A : Around) (env : Env) (csc : Scope) (m : Fm) (D : Addr) (R : St → Acc → Prop) (O : List Addr) (a : Addr) (src : Src) (x₀ : St) (i : Nat) (acc : Acc) (σ : Sto) (y : St) : Prop where
  S : Step (Ps fun a => a = D ∨ Owns env csc a) x₀ y
  C : Cx T k A env csc m y σ
  r : AccAt D R y acc
  it : ItOk T y O i a src
  hO : Tmps y O

/-- the turns of one clause -/
theorem comp_loop (he : isComp e = true) (hR : AccRel D R) {t iter : Expr} {ifs : List Expr} (hg : (clausesOf e)[d]? = some ⟨t, iter, ifs, 0⟩) {rest : Fm → Acc → Sto → Option (Acc × Sto)} (hrest : RestOk T k e csc D R d rest) (hifs : TrsOk T c Φ k ifs)
    (J : CI T k A env csc m D R O a src x₀ 0 acc σ x) (hn : ∀ b ∈ O, x₀.h.get? b = none) (hDO : D ∉ O) {P : Acc × Sto → Prop} {Q : Shared → Prop} (ev : Sat (compA csc src t m (trs c Φ ifs csc) rest acc σ) P) (kt : ∀ r y, P r → CP T D R env csc m x₀ r y → Q y.s) :
    codeAny (model T.prog T.w) A (.compStart e d (.ref a) (.ref D) env) (fun r s' => match r with | .ok _ => Q s' | .error _ => False) x.s := by
  obtain ⟨⟨hfit, hfr⟩, ev⟩ := ev.iteI
  obtain ⟨xs, hxs, ev⟩ := ev.bindI.mk'
  refine start_wp he hg (iter_self J.it ⟨rfl, rfl⟩) (loop_wp he hg (fun n s => ∃ y σ acc i, y.s = s ∧ CI T k A env csc m D R O a src x₀ i acc σ y ∧ Sat (iterA (fun b : Acc × Sto => src.items b.2) (fun v b => (bindT csc t v m).bind fun m' => (trs c Φ ifs csc m' b.2).bind fun r =>
    if r.1 then (rest m' b.1 r.2).map fun b' => (.next, b') else some (.next, (b.1, r.2))) n i (acc, σ)) fun r => P r.2) ?_ xs.length ⟨x, σ, acc, 0, rfl, J, ev.mapI⟩)
  rintro n _ ⟨y, σ, acc, i, rfl, J, h⟩ G hG
  obtain ⟨ys, hys, hend, hitem⟩ := iterA_turn h
  refine next_ok J.C.A.handled J.C.I J.it J.hO hys hfit ⟨fun hx y' M hn' => ?_, fun b v s₁ hx hgo => ?_⟩
  · exact kt _ y' (hend hx) ⟨⟨J.S.but M hn, J.hO.inv M hn' J.C.I, J.hO.fr M J.C.F⟩, J.r.moved hR J.hO hDO M⟩
  · obtain ⟨j, hj, h⟩ := hitem b hx
    refine hgo _ fun y2 N => ?_
    have F2 := J.hO.fr N.M J.C.F
    have r2 := J.r.moved hR J.hO hDO N.M
    have hw2 : ∀ b ∈ O, ¬ Owns env csc b := fun b hb h => h.tmp F2 (N.t b hb).1
    refine bindT_ok J.C.A.handled (fun _ h => h) (J.hO.inv N.M N.n J.C.I) F2 N.r (fresh_keeps h.bindI hfr) fun m' y3 h B => ?_
    have r3 := r2.frame hR F2 B.S
    have C3 : Cx T k A env csc m' y3 σ := ⟨J.C.A, B.I, B.F⟩
    refine Ok.at hifs C3 h.1.bindI fun r u y4 hr E4 => ?_
    obtain ⟨ok, σ₁⟩ := r
    obtain rfl : ok = u := E4.R
    have C4 := C3.step E4
    have r4 := r3.step hR E4.S
    have hO3 := N.t.step B.S
    have hO4 := hO3.step E4.S
    have it4 := (N.it.steps N.t hw2 B.S).step hO3 E4.S
    have S4 := ((J.S.but N.M hn).ts (B.S.more fun _ h => .inr h)).ts E4.S.ps
    cases ok
    · exact hG j _ hj ⟨y4, σ₁, acc, i + 1, rfl, ⟨S4, ⟨J.C.A, C4.I, C4.F.weak h.2⟩, r4, it4, hO4⟩, hr⟩
    · refine hrest A env m' y4 σ₁ acc _ _ C4 r4 (Sat.mapI hr) fun r y5 h5 P5 => hG j _ hj ⟨y5, r.2, r.1, i + 1, rfl, ⟨S4.ts P5.b.S, ⟨J.C.A, P5.b.I, P5.b.F.weak h.2⟩, P5.a, it4.steps hO4 ?_ P5.b.S, hO4.step P5.b.S⟩, h5⟩
      exact fun b hb q => q.elim (fun q => hDO (q ▸ hb)) fun q => q.tmp C4.F (hO4 b hb).1

/-- a source that is run over has items -/
theorem comp_items {P : Acc × Sto → Prop} {t : Expr} {ifs : Fm → Sto → Option (Bool × Sto)} {rest : Fm → Acc → Sto → Option (Acc × Sto)} (h : Sat (compA csc src t m ifs rest acc σ) P) : Sat (src.items σ) fun _ => True := sat_true h.iteI.2.bindI
theorem Step.none {P : Addr → Col → Prop} (S : Step P x y) {b : Addr} (h : y.h.get? b = none) : x.h.get? b = none := by
  cases e : x.h.get? b with
  | none => rfl
  | some o => exact (S.alive b o e).elim fun _ e => none_some h e
/-- all clauses behind the first -/
theorem gens_ok (he : isComp e = true) (hR : AccRel D R) {K : Fm → Acc → Sto → Option (Acc × Sto)} (hK : ∀ d, (clausesOf e)[d + 1]? = none → RestOk T k e csc D R d K) {gs : List Comprehension} (hd : (clausesOf e).drop (d + 1) = gs)
    (hg : ∀ g ∈ gs, EvOk T c Φ k g.iter ∧ TrsOk T c Φ k g.ifs) : RestOk T k e csc D R d (gens c Φ K gs csc) := by
  induction gs generalizing d with
  | nil => exact hK d (List.getElem?_eq_none (List.drop_eq_nil_iff.mp hd))
  | cons g gs ih =>
    obtain ⟨t, iter, ifs, j⟩ := g
    have hn : (clausesOf e)[d + 1]? = some ⟨t, iter, ifs, j⟩ := by
      have := List.getElem?_drop (xs := clausesOf e) (i := d + 1) (j := 0)
      rw [hd] at this
      exact this.symm
    have ih := ih (d := d + 1) (by rw [← List.drop_drop, hd]; rfl) fun g h => hg g (List.mem_cons_of_mem _ h)
    have hg := hg _ List.mem_cons_self
    intro A env m x σ acc P Q C r h kt
    obtain ⟨ha, h0⟩ := h.iteI
    cases ha
    have hp := plain_of h0.bindI
    refine .inl ⟨_, hn, rfl, hg.1.at C h0.bindI fun v u y h E => ⟨hp.fold env u, iter_ok E.I E.R (comp_items h) fun z a S I2 hnone hO hnz M it => ?_⟩⟩
    have r1 := r.step hR E.S
    have hDO : D ∉ [a] := fun q => (hR.alive r1.r).elim fun o e => none_some hnone (List.mem_singleton.mp q ▸ e)
    exact comp_loop (x₀ := y) he hR hn ih hg.2 ⟨S.ps, ⟨C.A, I2, (C.F.step E.S).step S⟩, r1.step hR S, it, hO⟩ (fun b hb => List.mem_singleton.mp hb ▸ hnone) hDO h fun r w h P => kt r w h ⟨P.b.then E.S.ps, P.a⟩
end
end Mine
namespace Mine
open PySem

theorem stored_zip {K : Type} [DecidableEq K] (k : K) (v : Value) {l : List K} {us : List Value} (hl : l.length = us.length) : stored (l.zip us) k v = if k ∈ l then l.zip (repl k v l us) else (l ++ [k]).zip (us ++ [v]) := by
  have hany : (l.zip us).any (fun kv => kv.1 = k) = decide (k ∈ l) := by
    clear v
    induction l generalizing us with
    | nil => rfl
    | cons x l ih =>
      cases us with
      | nil => cases hl
      | cons u us =>
        rw [List.zip_cons_cons, List.any_cons, ih (Nat.succ.inj hl)]
        by_cases h : x = k
        · rw [decide_eq_true h, Bool.true_or, decide_eq_true (List.mem_cons.mpr (.inl h.symm))]
        · rw [decide_eq_false h, Bool.false_or]
          exact decide_eq_decide.mpr ⟨fun q => .tail _ q, fun q => (List.mem_cons.mp q).elim (fun e => absurd e.symm h) id⟩
  unfold stored
  rw [hany]
  by_cases hk : k ∈ l
  · rw [decide_eq_true hk, if_pos rfl, if_pos hk]
    clear hany hk
    induction l generalizing us with
    | nil => rfl
    | cons x l ih =>
      cases us with
      | nil => cases hl
      | cons u us =>
        show (if x = k then (x, v) else (x, u)) :: List.map _ (l.zip us) = (x, if x = k then v else u) :: l.zip (repl k v l us)
        rw [ih (Nat.succ.inj hl)]
        by_cases h : x = k
        · rw [if_pos h, if_pos h]
        · rw [if_neg h, if_neg h]
  · rw [decide_eq_false hk, if_neg Bool.false_ne_true, if_neg hk, List.zip_append hl]; rfl
theorem repl_length {K α : Type} [DecidableEq K] (k : K) (v : α) (l : List K) (us : List α) : (repl k v l us).length = us.length := by
  induction l generalizing us with
  | nil => rfl
  | cons x l ih =>
    cases us with
    | nil => rfl
    | cons u us => exact congrArg (· + 1) (ih us)

section
variable {T : Tp} {c : Cfg} {Φ : Fns} {k : Nat} {A : Around} {env : Env} {sc csc : Scope} {m : Fm} {x y : St} {σ : Sto} {D : Addr} {acc : Acc} {xs : List AV} {us vs : List Value} {i w : AV} {vi vw : Value}

theorem RepL.repl {K : Type} [DecidableEq K] (k : K) (r : Rep T x w vw) (l : List K) (q : RepL T x xs us) : RepL T x (Mine.repl k w l xs) (Mine.repl k vw l us) := by
  induction l generalizing xs us with
  | nil => exact q
  | cons y l ih =>
    cases xs with
    | nil => exact repL_nil (C := fun us => RepL T x [] (Mine.repl k vw (y :: l) us)) q .nil
    | cons a xs =>
      exact repL_cons (C := fun us => RepL T x ((if y = k then w else a) :: Mine.repl k w l xs) (Mine.repl k vw (y :: l) us)) q fun u us q1 q2 => by
        refine .cons ?_ (ih q2)
        by_cases h : y = k
        · rw [if_pos h, if_pos h]; exact r
        · rw [if_neg h, if_neg h]; exact q1

/-- a store into a dict -/
theorem dictSet_gen {K : Type} [DecidableEq K] {knd : KeyKind T.prog T.w K} {a : Addr} {j : K} {l : List K} (hk : knd.is j vi = true) (hl : l.length = us.length) (d : x.h.DictOf knd a (l.zip us)) (hb : l.length < 2 ^ 20) {Q : Unit → Shared → Prop}
    (k1 : j ∈ l → ∀ h', h'.DictOf knd a (l.zip (repl j vw l us)) → Heap.SameBut a x.h h' → Q () { x.s with heap := h', toks := x.s.toks + 1 })
    (k2 : j ∉ l → ∀ h', h'.DictOf knd a ((l ++ [j]).zip (us ++ [vw])) → Heap.SameBut a x.h h' → Q () { x.s with heap := h', toks := x.s.toks + 1 }) : Wp T A (dictSet a vi vw) Q x := by
  refine wpAny_dictSet_pairs hk d (fun h' d' hs => ?_) ?_
  · rw [stored_zip j vw hl] at d'
    by_cases hm : j ∈ l
    · rw [if_pos hm] at d'; exact k1 hm h' d' hs
    · rw [if_neg hm] at d'; exact k2 hm h' d' hs
  · rw [List.length_zip]
    exact Nat.le_trans (Nat.min_le_left _ _) (Nat.le_trans (Nat.le_of_lt hb) (show 2 ^ 20 ≤ sizeLine by decide))
theorem len_app {α β : Type} {l : List α} {us : List β} (h : l.length = us.length) {a : α} {b : β} : (l ++ [a]).length = (us ++ [b]).length := by rw [List.length_append, List.length_append, h]; rfl
theorem setKey_ok {a : Addr} {ks : Keys} (d : DRep T x.h a ks us) (L : RepL T x xs us) (ri : Rep T x i vi) (rw' : Rep T x w vw) {Pk : Keys × List AV → Prop} (h : Sat (setKey i w ks xs) Pk) {Q : Unit → Shared → Prop}
    (kt : ∀ r h' us', Pk r → DRep T h' a r.1 us' → RepL T x r.2 us' → Heap.SameBut a x.h h' → Q () { x.s with heap := h', toks := x.s.toks + 1 }) : Wp T A (dictSet a vi vw) Q x := by
  cases ks with
  | ki l =>
    exact onInt_rep (C := fun vi => Wp T A (dictSet a vi vw) Q x) ri h fun j t h => dictSet_gen (isInt_self j t) d.1 d.2 h.iteI.1
      (fun hm h' d' hs => kt (.ki l, repl j w l xs) h' _ (by have := h.iteI.2; rw [if_pos hm] at this; exact this) ⟨by rw [repl_length]; exact d.1, d'⟩ (L.repl j rw' l) hs)
      fun hm h' d' hs => kt (.ki (l ++ [j]), xs ++ [w]) h' _ (by have := h.iteI.2; rw [if_neg hm] at this; exact this) ⟨len_app d.1, d'⟩ (L.append (.one rw')) hs
  | ks l =>
    exact onStr_rep (C := fun vi => Wp T A (dictSet a vi vw) Q x) ri h fun j t h => dictSet_gen (isStr_self j t) d.1 d.2 h.iteI.1
      (fun hm h' d' hs => kt (.ks l, repl j w l xs) h' _ (by have := h.iteI.2; rw [if_pos hm] at this; exact this) ⟨by rw [repl_length]; exact d.1, d'⟩ (L.repl j rw' l) hs)
      fun hm h' d' hs => kt (.ks (l ++ [j]), xs ++ [w]) h' _ (by have := h.iteI.2; rw [if_neg hm] at this; exact this) ⟨len_app d.1, d'⟩ (L.append (.one rw')) hs

/-- a list in the making -/
noncomputable def AccL (T : Tp) (D : Addr) (x : St) (acc : Acc) : Prop := ∃ vs ep, x.h.get? D = some (lobj vs ep) ∧ acc.vs.length ≤ 2 ^ 20 ∧ RepL T x acc.vs vs
/-- a dict in the making -/
noncomputable def AccD (T : Tp) (D : Addr) (x : St) (acc : Acc) : Prop := ∃ us, DRep T x.h D acc.ks us ∧ RepL T x acc.vs us
theorem accL_rel : AccRel D (AccL T D) :=
  ⟨fun r G h hD => r.elim fun vs r => r.elim fun ep r => ⟨vs, ep, G.keep _ _ r.1 hD, r.2.1, r.2.2.go' G h⟩, fun r => r.elim fun vs r => r.elim fun ep r => ⟨_, r.1⟩⟩
theorem accD_rel : AccRel D (AccD T D) :=
  ⟨fun r G h hD => r.elim fun us r => ⟨us, r.1.at fun o e => G.keep _ o e hD, r.2.go' G h⟩, fun r => r.elim fun us r => r.1.some.elim fun o h => ⟨o, h.1⟩⟩

/-- the result in the making is written to -/
theorem acc_write (C : Cx T k A env csc m y σ) (c : y.κ D = .tmp) {h' : Heap} {tk : Nat} (hs : Heap.SameBut D y.h h') {o o' : Obj} (g : y.h.get? D = some o) (g' : h'.get? D = some o') :
    Bd T (fun a => a = D ∨ Owns env csc a) env csc y σ m (y.to h' tk) ∧ ∀ {xs vs}, RepL T y xs vs → RepL T (y.to h' tk) xs vs :=
  have hO : Tmps y [D] := fun b hb => List.mem_singleton.mp hb ▸ ⟨c, o, g⟩
  have M := But.same (x := y) (tk := tk) hs
  have M' : But (· ∈ [D]) y (y.to h' tk) := M.more fun b e => e ▸ .head _
  ⟨⟨M.step (fun a e => .inr ⟨.inl e, fun q => Col.noConfusion ((e ▸ q).symm.trans c)⟩) fun a o e _ => ⟨o', e ▸ g'⟩, hO.inv M' rfl C.I, hO.fr M' C.F⟩, fun r => r.go' M'.go fun _ => hO.fz⟩

theorem emitL_ok {elt : Expr} {gs : List Comprehension} {p : Pos} (hx : EvOk T c Φ k elt) {d : Nat} (hn : (clausesOf (.ListComp elt gs csc p))[d + 1]? = none) : RestOk T k (.ListComp elt gs csc p) csc D (AccL T D) d (emitL (ev c Φ elt csc)) :=
  fun A env m x σ acc P Q C r h kt => .inr ⟨hn, hx.at C h.bindI fun v u y h E => by
    have C1 := C.step E
    obtain ⟨hc, vs, ep, g, b, rl⟩ := r.step accL_rel E.S
    obtain ⟨hlen, h⟩ := h.iteI
    have g' : (y.h.update D (Obj.mapSeq fun z => z.push u)).get? D = some (lobj (vs ++ [u]) (ep + 1)) := by
      rw [Heap.get?_update_self _ g rfl]
      simp [lobj, Obj.mapSeq]
    have B := acc_write C1 hc (tk := y.s.toks) (Heap.SameBut.update ..) g g'
    refine call_meets PySem.F.slot_list_append ⟨_, g, rfl⟩ PySem.F.entry_list_append (PySem.F.args_list_append_2 _ _) (list_append D vs.toArray ep u ?_) ⟨g, kt _ _ h ⟨B.1.then E.S.ps, hc, _, _, g', ?_, B.2 (rl.append (.one E.R))⟩⟩
    · rw [List.size_toArray, rl.length]
      exact Nat.le_trans (Nat.le_of_lt hlen) (show 2 ^ 20 ≤ sizeLine by decide)
    · rw [List.length_append]; exact hlen⟩
theorem emitD_ok {kx vx : Expr} {gs : List Comprehension} {p : Pos} (hk : EvOk T c Φ k kx) (hv : EvOk T c Φ k vx) {d : Nat} (hn : (clausesOf (.DictComp kx vx gs csc p))[d + 1]? = none) :
    RestOk T k (.DictComp kx vx gs csc p) csc D (AccD T D) d (emitD (ev c Φ kx csc) (ev c Φ vx csc)) :=
  fun A env m x σ acc P Q C r h kt => .inr ⟨hn, D, rfl, hk.at C h.bindI fun a u y h E => hv.at (C.step E) h.bindI fun b v z h F => by
    obtain ⟨hc, us, d, rl⟩ := (r.step accD_rel E.S).step accD_rel F.S
    obtain ⟨o, g, _⟩ := d.some
    refine setKey_ok d rl (F.rep E.R) F.R h.mapI fun r h' us' h d' L hs => ?_
    obtain ⟨o', g', _⟩ := d'.some
    have B := acc_write ((C.step E).step F) hc (tk := z.s.toks + 1) hs g g'
    exact kt _ _ h ⟨B.1.then (E.S.te F.S).ps, hc, us', d', B.2 L⟩⟩
end
end Mine
namespace Mine
open PySem

/-- the closure that a comprehension takes along -/
noncomputable def clFrom (env : Env) : List (Str × NameKind) → List (Str × Addr) → List (Str × Addr)
  | [], acc => acc
  | x :: r, acc => clFrom env r (if x.2 == .free then (x.1, (env.cells.lookup x.1).getD 0) :: acc else acc)

theorem closure_go {env : Env} (names : List (Str × NameKind)) (acc : List (Str × Addr)) (hh : ∀ x ∈ names, x.2 = .free → ∃ a, env.cells.lookup x.1 = some a) :
    (forIn names acc fun (x : Str × NameKind) (cs : List (Str × Addr)) => (if (x.2 == NameKind.free) = true then do
      let a ← cellOf env x.1
      pure (ForInStep.yield ((x.1, a) :: cs)) else pure (ForInStep.yield cs) : Sem _)) = pure (clFrom env names acc) := by
  induction names generalizing acc with
  | nil => rfl
  | cons x r ih =>
    rw [List.forIn_cons]
    have ihr := fun acc => ih acc fun y hy => hh y (.tail _ hy)
    cases hk : x.2 == NameKind.free with
    | true =>
      obtain ⟨a, ha⟩ := hh x (.head _) (beq_iff_eq.mp hk)
      have hc : cellOf env x.1 = pure a := by unfold cellOf; rw [ha]
      rw [if_pos rfl, hc]
      refine (ihr ((x.1, a) :: acc)).trans (congrArg pure ?_)
      show _ = clFrom env r (if x.2 == .free then _ else acc)
      rw [if_pos hk, ha]; rfl
    | false =>
      rw [if_neg Bool.false_ne_true]
      refine (ihr acc).trans (congrArg pure ?_)
      show _ = clFrom env r (if x.2 == .free then _ else acc)
      rw [if_neg (hk ▸ Bool.false_ne_true)]
theorem closureFor_eq {env : Env} {scope : Scope} (h : ∀ x ∈ scope.names, x.2 = .free → ∃ a, env.cells.lookup x.1 = some a) : closureFor scope env = pure (clFrom env scope.names []) :=
  Eq.trans rfl (congrArg (fun z : Sem _ => z >>= fun cs => pure cs) (closure_go scope.names [] h))

theorem clFrom_mem {env : Env} {names : List (Str × NameKind)} {acc : List (Str × Addr)} {x : Str} {a : Addr} (h : (x, a) ∈ clFrom env names acc) : (x, a) ∈ acc ∨ ((x, NameKind.free) ∈ names ∧ a = (env.cells.lookup x).getD 0) := by
  induction names generalizing acc with
  | nil => exact .inl h
  | cons y r ih =>
    rcases ih h with h | h
    · cases hk : y.2 == NameKind.free with
      | true =>
        rw [if_pos hk] at h
        rcases List.mem_cons.mp h with q | h
        · cases q
          exact .inr ⟨List.mem_cons.mpr (.inl (congrArg (y.1, ·) (beq_iff_eq.mp hk).symm)), rfl⟩
        · exact .inl h
      | false =>
        rw [if_neg (hk ▸ Bool.false_ne_true)] at h
        exact .inl h
    · exact .inr ⟨.tail _ h.1, h.2⟩
theorem clFrom_has {env : Env} {names : List (Str × NameKind)} {acc : List (Str × Addr)} {x : Str} (h : (x, NameKind.free) ∈ names ∨ ∃ a, acc.lookup x = some a) : ∃ a, (clFrom env names acc).lookup x = some a := by
  induction names generalizing acc with
  | nil => exact h.elim (fun h => absurd h List.not_mem_nil) id
  | cons y r ih =>
    refine ih ?_
    rcases h with h | ⟨a, h⟩
    · rcases List.mem_cons.mp h with q | h
      · cases q
        exact .inr ⟨_, List.lookup_cons_self⟩
      · exact .inl h
    · right
      cases hk : y.2 == NameKind.free with
      | true =>
        rw [if_pos rfl, List.lookup_cons]
        cases x == y.1 with
        | true => exact ⟨_, rfl⟩
        | false => exact ⟨a, h⟩
      | false => rw [if_neg Bool.false_ne_true]; exact ⟨a, h⟩
theorem cellsFrom_append (names : List (Str × NameKind)) (n : Nat) (acc : List (Str × Addr)) : cellsFrom n names acc = cellsFrom n names [] ++ acc := by
  induction names generalizing n acc with
  | nil => rfl
  | cons y r ih =>
    show (if y.2 == .cell then _ else _) = (if y.2 == .cell then _ else _) ++ acc
    cases y.2 == NameKind.cell with
    | true => rw [if_pos rfl, if_pos rfl, ih, ih (acc := [(y.1, n)]), List.append_assoc]; rfl
    | false => rw [if_neg Bool.false_ne_true, if_neg Bool.false_ne_true]; exact ih n acc
theorem cellsFrom_mem {names : List (Str × NameKind)} {n : Nat} {x : Str} {a : Addr} (h : (x, a) ∈ cellsFrom n names []) : (x, NameKind.cell) ∈ names := by
  induction names generalizing n with
  | nil => exact absurd h List.not_mem_nil
  | cons y r ih =>
    have h : (x, a) ∈ (if y.2 == .cell then cellsFrom (n + 1) r [(y.1, n)] else cellsFrom n r []) := h
    cases hk : y.2 == NameKind.cell with
    | true =>
      rw [if_pos hk, cellsFrom_append] at h
      rcases List.mem_append.mp h with h | h
      · exact .tail _ (ih h)
      · cases List.mem_singleton.mp h
        exact List.mem_cons.mpr (.inl (congrArg (y.1, ·) (beq_iff_eq.mp hk).symm))
    | false =>
      rw [if_neg (hk ▸ Bool.false_ne_true)] at h
      exact .tail _ (ih h)
theorem cellsFrom_has {names : List (Str × NameKind)} {n : Nat} {x : Str} (h : (x, NameKind.cell) ∈ names) : ∃ a, (cellsFrom n names []).lookup x = some a := by
  induction names generalizing n with
  | nil => exact absurd h List.not_mem_nil
  | cons y r ih =>
    show ∃ a, List.lookup x (if y.2 == .cell then cellsFrom (n + 1) r [(y.1, n)] else cellsFrom n r []) = some a
    cases hk : y.2 == NameKind.cell with
    | true =>
      rw [if_pos rfl, cellsFrom_append, List.lookup_append]
      rcases List.mem_cons.mp h with q | h
      · cases q
        cases (cellsFrom (n + 1) r []).lookup x with
        | some a => exact ⟨a, rfl⟩
        | none => exact ⟨n, List.lookup_cons_self⟩
      · exact (ih (n := n + 1) h).elim fun a e => ⟨a, by rw [e]; rfl⟩
    | false =>
      rw [if_neg Bool.false_ne_true]
      rcases List.mem_cons.mp h with q | h
      · cases q; cases hk
      · exact ih h

theorem mem_lookup {sc : Scope} (h : okScope sc = true) {x : Str} {k : NameKind} (hx : (x, k) ∈ sc.names) : sc.names.lookup x = some k := beq_iff_eq.mp (List.all_eq_true.mp (Bool.and_eq_true_iff.mp h).2 _ hx)
theorem ite_pair {c : Prop} [Decidable c] {α β : Type} (a : α) (b d : β) : (if c then (a, b) else (a, d)) = (a, if c then b else d) := by
  by_cases h : c
  · rw [if_pos h, if_pos h]
  · rw [if_neg h, if_neg h]
theorem relabel_lookup (csc : Scope) (env : Env) (x : Str) : (relabel csc env).names.lookup x = (csc.names.lookup x).map fun k => if (k == .free && env.scope.kind == .function && env.kindOf x == some .cell) then .cell else k := by
  unfold relabel
  dsimp only
  induction csc.names with
  | nil => rfl
  | cons y r ih =>
    obtain ⟨n, j⟩ := y
    rw [List.map_cons, ite_pair, List.lookup_cons, List.lookup_cons]
    cases hx : x == n with
    | true => rw [beq_iff_eq.mp hx]; rfl
    | false => exact ih

/-- a comprehension's frame -/
noncomputable def cframe (csc : Scope) (env : Env) (N : Nat) : Env :=
  { scope := relabel csc env, locals := N, globals := env.globals, cells := cellsFrom (N + 1) csc.names [] ++ clFrom env csc.names [], qual := env.qual, func := none, code := env.code, frame := env.frame, builtins := env.builtins }

section
variable {T : Tp} {A : Around} {env : Env} {sc csc : Scope} {m : Fm} {x : St} {σ : Sto} {n : Str} {N : Nat}

theorem okComp_scope (h : okComp sc csc = true) : okScope csc = true := (Bool.and_eq_true_iff.mp h).1
theorem okScope_kind (h : okScope csc = true) : csc.kind = .function := beq_iff_eq.mp (Bool.and_eq_true_iff.mp h).1
theorem comp_free (h : okComp sc csc = true) (hn : (n, NameKind.free) ∈ csc.names) : sc.names.lookup n = some .cell ∨ sc.names.lookup n = some .free :=
  (Bool.or_eq_true_iff.mp ((Bool.or_eq_true_iff.mp (List.all_eq_true.mp (Bool.and_eq_true_iff.mp h).2 _ hn)).resolve_left (fun h => bne_iff_ne.mp h rfl))).imp beq_iff_eq.mp beq_iff_eq.mp
theorem free_cell (F : FrOk T env sc m x) (h : okComp sc csc = true) (hn : (n, NameKind.free) ∈ csc.names) : ∃ a u L, CelAt env x n a u L :=
  (comp_free h hn).elim (fun q => (F.own n q).elim fun a q => q.elim fun u q => ⟨a, u, _, q⟩) (F.fre n)

/-- the cells of a comprehension's frame -/
structure CellsR (csc : Scope) (env : Env) (N : Nat) (h' : Heap) : Prop where
  own : ∀ n, csc.names.lookup n = some .cell → ∃ a, (cframe csc env N).cells.lookup n = some a ∧ h'.IsCell a none ∧ N + 1 ≤ a
  fre : ∀ n a, csc.names.lookup n = some .free → env.cells.lookup n = some a → (cframe csc env N).cells.lookup n = some a
  cel : ∀ n a, (cframe csc env N).cells.lookup n = some a → (N + 1 ≤ a ∧ (n, a) ∈ cellsFrom (N + 1) csc.names []) ∨ (a < N ∧ env.cells.lookup n = some a)
theorem cells_ok {h' : Heap} (hsc : okScope csc = true) (ok : CellsOk h' (N + 1) (cellsFrom (N + 1) csc.names [])) (hf : ∀ n, (n, NameKind.free) ∈ csc.names → ∃ a, env.cells.lookup n = some a ∧ a < N) : CellsR csc env N h' where
  own n hn := (cellsFrom_has (n := N + 1) (mem_of_lookup hn)).elim fun a ha => ⟨a, by show List.lookup n (_ ++ _) = _; rw [List.lookup_append, ha]; rfl, ok.empty n a (mem_of_lookup ha)⟩
  fre n a hn ha := by
    show List.lookup n (_ ++ _) = _
    rw [List.lookup_append]
    cases e : (cellsFrom (N + 1) csc.names []).lookup n with
    | some b => exact absurd (hn.symm.trans (mem_lookup hsc (cellsFrom_mem (mem_of_lookup e)))) (by decide)
    | none =>
      obtain ⟨b, hb⟩ := clFrom_has (env := env) (acc := []) (.inl (mem_of_lookup hn))
      rw [hb]
      rcases clFrom_mem (mem_of_lookup hb) with q | q
      · exact absurd q List.not_mem_nil
      · rw [q.2, ha]; rfl
  cel n a hn := by
    have hn : List.lookup n (_ ++ _) = some a := hn
    rw [List.lookup_append] at hn
    cases e : (cellsFrom (N + 1) csc.names []).lookup n with
    | some b =>
      rw [e] at hn
      cases Option.some.inj (show some b = some a from hn)
      exact .inl ⟨(ok.empty n _ (mem_of_lookup e)).2, mem_of_lookup e⟩
    | none =>
      rw [e] at hn
      rcases clFrom_mem (mem_of_lookup (show List.lookup n (clFrom env csc.names []) = some a from hn)) with q | ⟨q1, q2⟩
      · exact absurd q List.not_mem_nil
      · obtain ⟨b, h1, h2⟩ := hf n q1
        rw [h1] at q2
        cases q2
        exact .inr ⟨h2, h1⟩

theorem inner_ok (F : FrOk T env sc m x) (hok : okComp sc csc = true) {h' : Heap} (hk : ∀ b o, x.h.get? b = some o → h'.get? b = some o) (hns : h'.Ns x.h.objs.size fun _ => none) (ok : CellsOk h' (x.h.objs.size + 1) (cellsFrom (x.h.objs.size + 1) csc.names []))
    {y : St} (hy : y = x.re h' x.s.toks fun b => if b < x.h.objs.size then x.κ b else .fr x.h.objs.size) : Ext x y ∧ FrOk T (cframe csc env x.h.objs.size) csc (inner csc m) y ∧ ∀ a, Owns (cframe csc env x.h.objs.size) csc a → x.h.get? a = none := by
  have R : CellsR csc env x.h.objs.size h' := cells_ok (okComp_scope hok) ok fun n hn => (free_cell F hok hn).elim fun a q => q.elim fun u q => q.elim fun L q => ⟨a, q.l, q.g.lt⟩
  subst hy
  have M : Ext x (x.re h' x.s.toks fun b => if b < x.h.objs.size then x.κ b else .fr x.h.objs.size) := .old hk fun b o e => if_pos (Heap.lt_size e)
  have hc {b : Addr} (h : x.h.objs.size ≤ b) : (if b < x.h.objs.size then x.κ b else Col.fr x.h.objs.size) = .fr x.h.objs.size := if_neg (Nat.not_lt.mpr h)
  have old {k : Str} {a L : Addr} {w : Option Value} (hk : csc.names.lookup k = some .free) (g : CelAt env x k a w L) : CelAt (cframe csc env x.h.objs.size) (x.re h' x.s.toks fun b => if b < x.h.objs.size then x.κ b else .fr x.h.objs.size) k a w L :=
    have g' := g.go M.go fun h => h
    ⟨R.fre k a hk g.l, g'.g, g'.c⟩
  refine ⟨M, ⟨(show csc.kind = .function from okScope_kind (okComp_scope hok)), F.glo, F.bui, fun k => ?_, hc (Nat.le_refl _), ⟨_, hns, fun k v e q => ?_⟩, fun k v e _ => ?_, fun k q => ?_, fun k j a hx hy => ?_, fun k q => ?_, fun k q => ?_⟩, fun a ha => ?_⟩
  · show kcls ((relabel csc env).names.lookup k) = _
    rw [relabel_lookup]
    cases csc.names.lookup k with
    | none => rfl
    | some j =>
      show kcls (some (if _ then _ else _)) = _
      split
      · rename_i h
        rw [beq_iff_eq.mp (Bool.and_eq_true_iff.mp (Bool.and_eq_true_iff.mp h).1).1]; rfl
      · rfl
  · unfold inner at e
    rw [q] at e; cases e
  · have hq : csc.names.lookup k = some .free ∧ m k = some v := by
      revert e
      show (match csc.names.lookup k with | some .free => m k | _ => none) = some v → _
      rcases csc.names.lookup k with _ | (_ | _ | _ | _ | _)
      · exact fun e => by cases e
      · exact fun e => by cases e
      · exact fun e => by cases e
      · exact fun e => ⟨rfl, e⟩
      · exact fun e => by cases e
      · exact fun e => by cases e
    obtain ⟨b, w, L, g, r⟩ := F.cel k v hq.2 (by rcases comp_free hok (mem_of_lookup hq.1) with q | q <;> rw [q] <;> rfl)
    exact ⟨b, w, L, old hq.1 g, M.rep r⟩
  · obtain ⟨a, h1, h2, h3⟩ := R.own k q
    exact ⟨a, none, h1, h2, hc (Nat.le_of_succ_le h3)⟩
  · rcases R.cel k a hx with ⟨p1, p2⟩ | ⟨p1, p2⟩ <;> rcases R.cel j a hy with ⟨q1, q2⟩ | ⟨q1, q2⟩
    · exact name_of_addr ok.apart p2 q2
    · exact absurd (Nat.lt_of_lt_of_le q1 (Nat.le_of_succ_le p1)) (Nat.lt_irrefl _)
    · exact absurd (Nat.lt_of_lt_of_le p1 (Nat.le_of_succ_le q1)) (Nat.lt_irrefl _)
    · exact F.inj k j a p2 q2
  · show (relabel csc env).names.lookup k = _
    rw [relabel_lookup, q]; rfl
  · obtain ⟨a, u, L, g⟩ := free_cell F hok (mem_of_lookup q)
    exact ⟨a, u, L, old q g⟩
  · refine Heap.get?_none_of_le ?_
    rcases ha with rfl | ⟨k, q1, q2⟩
    · exact Nat.le_refl _
    · obtain ⟨b, h1, _, h3⟩ := R.own k q1
      cases q2.symm.trans h1
      exact Nat.le_of_succ_le h3
theorem inner_closure (F : FrOk T env sc m x) (hok : okComp sc csc = true) : closureFor csc env = pure (clFrom env csc.names []) :=
  closureFor_eq fun p hp hk => by
    obtain ⟨k, j⟩ := p
    cases (show j = NameKind.free from hk)
    exact (free_cell F hok hp).elim fun a q => q.elim fun u q => q.elim fun L q => ⟨a, q.l⟩
theorem inner_frame (F : FrOk T env sc m x) (hok : okComp sc csc = true) {Q : Env → Shared → Prop}
    (kt : ∀ y, Ext x y → y.n = x.n → FrOk T (cframe csc env x.h.objs.size) csc (inner csc m) y → (∀ a, Owns (cframe csc env x.h.objs.size) csc a → x.h.get? a = none) → ∀ e : Env, { e with scope := relabel csc env } = cframe csc env x.h.objs.size → Q e y.s) :
    Wp T A (newFunctionEnv csc env.globals (clFrom env csc.names []) [] env.qual none .none (some env)) Q x := by
  simp only [newFunctionEnv, Option.isSome_some, if_true]
  refine wpAny_bind (wpAny_alloc (wpAny_bind (wpAny_layCells _ (fun name kind cells => by cases kind == NameKind.cell <;> simp) _ _ _ _ ?_)))
  have ok := cellsFrom_ok csc.names (x.h.push { cls := .type "dict", data := .dict #[] }) (x.h.objs.size + 1) [] ⟨fun _ _ hm => absurd hm List.not_mem_nil, List.Pairwise.nil⟩ (by rw [Heap.size_push]; exact Nat.le_refl _)
  rw [Heap.size_push] at ok
  rw [show ({ x.s with heap := x.s.heap.push { cls := .type "dict", data := .dict #[] } } : Shared).heap.objs.size = x.h.objs.size + 1 from Heap.size_push .., cellsFrom_append, List.forIn_nil]
  have z := inner_ok F hok (h' := pushCells (x.h.push { cls := .type "dict", data := .dict #[] }) csc.names) (fun b o e => pushCells_keeps _ _ b o (Heap.get?_push_of_some _ e)) ((Heap.Ns.new x.h (.type "dict")).keeps (pushCells_keeps _ _)) ok rfl
  exact wpAny_bind (wpAny_pure (wpAny_pure (kt _ z.1 rfl z.2.1 z.2.2 _ rfl)))
end
end Mine
namespace Mine
open PySem

/-- a source's iterator stands -/
structure It0 (T : Tp) (x : St) (r : Src × Sto) (O : List Addr) (a : Addr) (y : St) : Prop where
  S : Step Pe x y
  I : Inv T y r.2
  it : ItOk T y O 0 a r.1
  hO : Tmps y O
  hn : ∀ b ∈ O, x.h.get? b = none
/-- a comprehension's source: it is read, and an iterator stands -/
noncomputable def SrcOk (T : Tp) (c : Cfg) (Φ : Fns) (k : Nat) (iter : Expr) : Prop := ∀ (A : Around) (env : Env) (sc : Scope) (m : Fm) (x : St) (σ : Sto) (P : Src × Sto → Prop) (Q : Value → Shared → Prop), Cx T k A env sc m x σ →
  Sat (evSrc c Φ iter (ev c Φ iter sc) sc m σ) P → (∀ r, P r → Sat (r.1.items r.2) fun _ => True) → (∀ r O a y, P r → It0 T x r O a y → Q (.ref a) y.s) →
    (∀ v, foldedSetIterable iter env v = pure v) ∧ Wp T A (eval iter env) (fun v s₁ => wpAny (model T.prog T.w) A (pyIter v) Q NoE s₁) x

/-- what stands behind a comprehension -/
structure CDone (T : Tp) (R : Addr → St → Acc → Prop) (x : St) (D C : Addr) (r : Acc × Sto) (y : St) : Prop where
  S : Step Pe x y
  I : Inv T y r.2
  newD : x.h.get? D = none
  a : AccAt D (R D) y r.1
  newC : x.h.get? C = none
  colC : y.κ C = .fr C

/-- a value is used while its frame stands yet -/
noncomputable def UseW (T : Tp) (A : Around) (u : Value → Sem Unit) (D C : Addr) (Q : Value → Shared → Prop) (s : Shared) : Prop :=
  wpAny (model T.prog T.w) A (u (.ref D)) (fun _ s'' => ∃ mC, s''.heap.Ns C mC ∧ ∀ h', Heap.SameBut C s''.heap h' → Q .none { s'' with heap := h' }) NoE s
noncomputable def DoneU (T : Tp) (A : Around) (R : Addr → St → Acc → Prop) (x : St) (P : Acc × Sto → Prop) (use : Option (Value → Sem Unit)) (Q : Value → Shared → Prop) : Prop := match use with
  | none => ∀ D C r y, P r → CDone T R x D C r y → Q (.ref D) y.s
  | some u => ∀ D C r y, P r → CDone T R x D C r y → (∃ mC, y.h.Ns C mC) → UseW T A u D C Q y.s

section
variable {T : Tp} {c : Cfg} {Φ : Fns} {k : Nat} {A : Around} {env : Env} {sc csc : Scope} {m : Fm} {x y : St} {σ : Sto} {D C : Addr} {R : Addr → St → Acc → Prop} {r : Acc × Sto}

/-- a value is a source -/
theorem src_val {iter : Expr} (hx : EvOk T c Φ k iter) (hf : ∀ w sc m σ, evSrc c Φ iter w sc m σ = (w m σ).map fun v => (.val v.1, v.2)) : SrcOk T c Φ k iter := fun A env sc m x σ P Q C h hit kt => by
  rw [hf] at h
  exact ⟨(plain_of h.mapI).fold env, hx.at C h.mapI fun v u y h E => iter_ok E.I E.R (hit _ h) fun z a S I hnone hO hn M it => kt _ [a] a z h ⟨E.S.te S, I, it, hO, fun b hb => E.S.none (by rw [List.mem_singleton.mp hb]; exact hnone)⟩⟩

theorem CDone.ne (d : CDone T R x D C r y) : D ≠ C := fun e => Col.noConfusion ((e ▸ d.colC).symm.trans d.a.c)
theorem CDone.go (hR : ∀ D, AccRel D (R D)) {h' : Heap} (d : CDone T R x D C r y) (hs : Heap.SameBut C y.h h') : CDone T R x D C r (y.to h' y.s.toks) :=
  have M := But.same (x := y) (tk := y.s.toks) hs
  ⟨d.S.but M fun a e => e ▸ d.newC, M.inv d.I (fun a e => .inl ⟨C, e ▸ d.colC⟩) rfl, d.newD, d.a.go (hR D) M.go (fun a e q => Col.noConfusion ((q ▸ e).symm.trans d.colC)) d.ne, d.newC, d.colC⟩

theorem comp_run {e : Expr} {pos : Pos} {newAcc : Sem Value} {use : Option (Value → Sem Unit)} {t iter : Expr} {ifs : List Expr} {gs : List Comprehension} {rest : Fm → Acc → Sto → Option (Acc × Sto)} {acc₀ : Acc} {P : Acc × Sto → Prop} {Q : Value → Shared → Prop}
    (hcl : clausesOf e = ⟨t, iter, ifs, 0⟩ :: gs) (he : isComp e = true) (hok : okComp sc csc = true) (hsrc : SrcOk T c Φ k iter) (hR : ∀ D, AccRel D (R D))
    (hnew : ∀ (x : St) (Q : Value → Shared → Prop), (∀ o tk, R x.h.objs.size (x.re (x.h.push o) tk (upc x.κ x.h.objs.size .tmp)) acc₀ → Q (.ref x.h.objs.size) { x.s with heap := x.h.push o, toks := tk }) → Wp T A newAcc Q x)
    (hrest : ∀ D, RestOk T k e csc D (R D) 0 rest) (hifs : TrsOk T c Φ k ifs) (C : Cx T k A env sc m x σ)
    (h : Sat ((evSrc c Φ iter (ev c Φ iter sc) sc m σ).bind fun src => compA csc src.1 t (inner csc m) (trs c Φ ifs csc) rest acc₀ src.2) P)
    (hQ : DoneU T A R x P use Q) :
    Wp T A (comprehension e csc env pos newAcc false (eval iter env) use) Q x := by
  have hsc := okComp_scope hok
  refine (fun (z : _ ∧ _) => wpAny_comprehension_free hcl z.1 (inner_closure C.F hok) (okScope_kind hsc) (fun p hp hl => mem_lookup hsc (by rw [← hl]; exact hp)) z.2) (hsrc A env sc m x σ _ _ C h.bindI (fun r h => comp_items h) fun src O a y2 h J => ?_)
  refine hnew y2 _ fun o tk r3 => ?_
  have M3 : Ext y2 (y2.re (y2.h.push o) tk (upc y2.κ y2.h.objs.size .tmp)) := Ext.push
  have S3 : Step Pe y2 _ := M3.step
  have hD : y2.h.get? y2.h.objs.size = none := get?_size _
  have C3 : Cx T k A env sc m (y2.re (y2.h.push o) tk (upc y2.κ y2.h.objs.size .tmp)) src.2 := ⟨C.A, M3.inv J.I rfl, (C.F.step J.S).step S3⟩
  refine inner_frame C3.F hok fun y4 M4 hn4 F4 hown ce hce => ?_
  rw [hce]
  have hloc : ce.locals = (cframe csc env (y2.h.push o).objs.size).locals := by rw [← hce]
  have S4 : Step Pe y2 y4 := S3.te M4.step
  have hnew0 : ∀ b, y4.h.get? b = none ∨ (y2.h.push o).get? b = none ∨ y2.h.get? b = none → x.h.get? b = none := fun b h => h.elim ((J.S.te S4).none) fun h => h.elim ((J.S.te S3).none) J.S.none
  refine codeAny_mono (comp_loop (x₀ := x) he (hR y2.h.objs.size) (d := 0) (by rw [hcl]; rfl) (hrest _) hifs
    ⟨(J.S.te S4).ps, ⟨C.A, M4.inv C3.I hn4, F4⟩, (AccAt.mk upc_self r3).step (hR _) M4.step, J.it.step J.hO S4, J.hO.step S4⟩ J.hn (fun hb => (J.hO _ hb).2.elim fun _ e => none_some hD e) h
    (Q := fun s => ∃ r y, P r ∧ y.s = s ∧ (∃ mC, y.h.Ns (cframe csc env (y2.h.push o).objs.size).locals mC) ∧ CDone T R x y2.h.objs.size (cframe csc env (y2.h.push o).objs.size).locals r y)
    fun r y5 h P5 => ⟨r, y5, h, rfl, P5.b.F.ns.elim fun mC q => ⟨mC, q.1⟩, P5.b.S.pe fun b hb => hb.elim (fun q => q ▸ J.S.none hD) fun q => hnew0 b (.inr (.inl (hown b q))), P5.b.I, J.S.none hD, P5.a, hnew0 _ (.inr (.inl (hown _ (.inl rfl)))), P5.b.F.col⟩) fun rr s₅ h₅ => ?_
  cases rr with
  | error x => exact h₅.elim
  | ok f =>
    obtain ⟨r, y5, h, rfl, ⟨mC, hns⟩, d⟩ := h₅
    cases use with
    | none =>
      refine ⟨mC, by rw [hloc]; exact hns, fun h' hs' => ?_⟩
      rw [hloc] at hs'
      exact hQ _ _ r _ h (d.go hR hs')
    | some u =>
      show wpAny _ A (u (.ref y2.h.objs.size)) _ _ y5.s
      rw [hloc]
      exact hQ _ _ r y5 h d ⟨mC, hns⟩

/-- one place is coloured at last -/
theorem recol_go {col : Col} {γ : Nat → Addr} {n : Nat} (hg : ∀ l, l < y.n → γ l = y.γ l) (hn : y.n ≤ n) : Go (fun a => a ≠ D) y ⟨y.s, upc y.κ D col, γ, n⟩ := ⟨fun _ _ e _ => e, fun _ _ _ h => upc_ne h, hg, hn⟩
theorem recol_step {col : Col} {γ : Nat → Addr} {n : Nat} (S : Step Pe x y) (hD : x.h.get? D = none) (hg : ∀ l, l < y.n → γ l = y.γ l) (hn : y.n ≤ n) : Step Pe x ⟨y.s, upc y.κ D col, γ, n⟩ :=
  ⟨S.keep, S.alive, fun a o e q => (upc_ne fun q' => none_some hD (q' ▸ e)).trans (S.col a o e q), fun l h => (hg l (Nat.lt_of_lt_of_le h S.nx)).trans (S.gam l h), Nat.le_trans S.nx hn, S.gens, S.os⟩
theorem CDone.fz (d : CDone T R x D C r y) (a : Addr) (e : y.κ a = .fz) : a ≠ D := fun q => Col.noConfusion ((q ▸ e).symm.trans d.a.c)
theorem CDone.ob (d : CDone T R x D C r y) (l : Nat) (a : Addr) (e : y.κ a = .ob l) : a ≠ D := fun q => Col.noConfusion ((q ▸ e).symm.trans d.a.c)
/-- what is laid in the end: a value, and the frame let go stands yet -/
noncomputable abbrev DoneK (T : Tp) (x : St) (C : Addr) (r : AV × Sto) (u : Value) (s : Shared) : Prop := ∃ z, Ev T x r u z ∧ z.s = s ∧ z.κ C = .fr C
theorem accL_done {p : Pos} (d : CDone T (AccL T) x D C r y) : DoneK T x C (mkL c p r.1.vs r.2) (.ref D) y.s := by
  obtain ⟨vs, ep, g, b, rl⟩ := d.a.r
  have hC {col : Col} : upc y.κ D col C = .fr C := (upc_ne d.ne.symm).trans d.colC
  unfold mkL
  by_cases hm : c.mu p = true
  · rw [if_pos hm]
    have hg : ∀ l, l < y.n → upg y.γ y.n D l = y.γ l := fun l h => upg_ne (Nat.ne_of_lt h)
    have G := recol_go (D := D) (col := .ob y.n) hg (Nat.le_succ _)
    have e : upg y.γ y.n D y.n = D := upg_self
    have q : SeqAt ⟨y.s, upc y.κ D (.ob y.n), upg y.γ y.n D, y.n + 1⟩ lobj (.ob y.n) D r.1.vs.length (RepL T ⟨y.s, upc y.κ D (.ob y.n), upg y.γ y.n D, y.n + 1⟩ r.1.vs) vs ep := ⟨upc_self, g, le20 b, rl.go' G d.fz⟩
    exact ⟨⟨y.s, upc y.κ D (.ob y.n), upg y.γ y.n D, y.n + 1⟩, ⟨recol_step d.S d.newD hg (Nat.le_succ _), d.I.goNew G d.fz d.ob rfl ⟨vs, ep, by show SeqAt _ lobj _ (upg y.γ y.n D y.n) _ _ _ _; rw [e]; exact q⟩, d.I.nx ▸ ⟨congrArg Value.ref e.symm, Nat.lt_succ_self _⟩⟩, rfl, hC⟩
  · rw [if_neg hm]
    have G := recol_go (D := D) (col := .fz) (fun _ _ => rfl) (Nat.le_refl y.n)
    exact ⟨_, ⟨recol_step d.S d.newD (fun _ _ => rfl) (Nat.le_refl _), d.I.go G d.fz d.ob rfl, D, vs, ep, rfl, upc_self, g, le20 b, rl.go' G d.fz⟩, rfl, hC⟩
theorem accD_done (hb : T.h₀.get? sysModules ≠ none) (d : CDone T (AccD T) x D C r y) : DoneK T x C (.dict r.1.ks r.1.vs, r.2) (.ref D) y.s := by
  obtain ⟨us, g, rl⟩ := d.a.r
  have G := recol_go (D := D) (col := .fz) (fun _ _ => rfl) (Nat.le_refl y.n)
  refine ⟨_, ⟨recol_step d.S d.newD (fun _ _ => rfl) (Nat.le_refl _), d.I.go G d.fz d.ob rfl, D, us, rfl, beq_false_of_ne fun e => ?_, upc_self, g, rl.go' G d.fz⟩, rfl, (upc_ne d.ne.symm).trans d.colC⟩
  cases g : T.h₀.get? sysModules with
  | none => exact hb g
  | some o => exact Col.noConfusion ((e ▸ d.a.c).symm.trans (d.I.base _ _ g).2)
end
end Mine
namespace Mine
open PySem

/-- what is done with a comprehension's value: given, or used while its frame stands yet -/
noncomputable def UseK (T : Tp) (A : Around) (x : St) (P : AV × Sto → Prop) (use : Option (Value → Sem Unit)) (Q : Value → Shared → Prop) : Prop := match use with
  | none => Kv T x P Q
  | some us => ∀ r D C z, P r → Ev T x r (.ref D) z → z.κ C = .fr C → x.h.get? C = none → (∃ mC, z.h.Ns C mC) → UseW T A us D C Q z.s
/-- what the parts of a comprehension keep -/
noncomputable def GensOk (T : Tp) (c : Cfg) (Φ : Fns) (k : Nat) (gs : List Comprehension) : Prop := ∀ g ∈ gs, EvOk T c Φ k g.iter ∧ TrsOk T c Φ k g.ifs

section
variable {T : Tp} {c : Cfg} {Φ : Fns} {k : Nat} {A : Around} {env : Env} {sc csc : Scope} {m : Fm} {x : St} {σ : Sto} {R : Addr → St → Acc → Prop} {t iter : Expr} {ifs : List Expr} {gs : List Comprehension} {a : Int} {p pos : Pos} {use : Option (Value → Sem Unit)} {P : AV × Sto → Prop} {Q : Value → Shared → Prop}

theorem comp_fin {f : Acc × Sto → AV × Sto} (hd : ∀ {D C r y}, CDone T R x D C r y → DoneK T x C (f r) (.ref D) y.s) (hQ : UseK T A x P use Q) : DoneU T A R x (fun r => P (f r)) use Q := by
  cases use with
  | none => exact fun D C r y h d => (hd d).elim fun z e => e.2.1 ▸ hQ _ _ z h e.1
  | some u =>
    intro D C r y h d hC
    obtain ⟨z, E, hz, hc⟩ := hd d
    have hC : ∃ mC, z.h.Ns C mC := by rw [show z.h = y.h from congrArg Shared.heap hz]; exact hC
    exact hz ▸ hQ _ D C z h E hc d.newC hC
theorem listcomp_run {elt : Expr} (hx : EvOk T c Φ k elt) (hi : SrcOk T c Φ k iter) (hifs : TrsOk T c Φ k ifs) (hg : GensOk T c Φ k gs) (C : Cx T k A env sc m x σ) (h : Sat (ev c Φ (.ListComp elt (⟨t, iter, ifs, 0⟩ :: gs) csc p) sc m σ) P)
    (hQ : UseK T A x P use Q) : Wp T A (comprehension (.ListComp elt (⟨t, iter, ifs, 0⟩ :: gs) csc p) csc env pos (newList []) false (eval iter env) use) Q x := by
  obtain ⟨⟨_, hok⟩, h⟩ := h.iteI
  exact comp_run (R := AccL T) (acc₀ := ⟨.ki [], []⟩) (P := fun r => P (mkL c p r.1.vs r.2)) rfl rfl hok hi (fun D => accL_rel) (fun x Q h => wpAny_newList (h _ x.s.toks ⟨[], 0, Heap.get?_push_size _ rfl, Nat.zero_le _, .nil⟩)) (fun D => gens_ok rfl accL_rel (fun d hn => emitL_ok hx hn) rfl hg) hifs C
    (Sat.mapI (g := fun r : Acc × Sto => mkL c p r.1.vs r.2) (by cases e : evSrc c Φ iter (ev c Φ iter sc) sc m σ <;> rw [e] at h <;> exact h)) (comp_fin (f := fun r => mkL c p r.1.vs r.2) accL_done hQ)
theorem listcomp_node {elt : Expr} (hx : EvOk T c Φ k elt) (hi : SrcOk T c Φ k iter) (hifs : TrsOk T c Φ k ifs) (hg : GensOk T c Φ k gs) : EvOk T c Φ k (.ListComp elt (⟨t, iter, ifs, a⟩ :: gs) csc p) := fun A env sc m x σ P Q C h kt => by
  cases (Sat.iteI h).1.1
  rw [arm_eval_ListComp]
  exact listcomp_run (use := none) hx hi hifs hg C h kt
theorem dictcomp_run (O : TopOk T c) {kx vx : Expr} (hk : EvOk T c Φ k kx) (hv : EvOk T c Φ k vx) (hi : SrcOk T c Φ k iter) (hifs : TrsOk T c Φ k ifs) (hg : GensOk T c Φ k gs) (C : Cx T k A env sc m x σ)
    (h : Sat (ev c Φ (.DictComp kx vx (⟨t, iter, ifs, 0⟩ :: gs) csc p) sc m σ) P) (hQ : UseK T A x P use Q) : Wp T A (comprehension (.DictComp kx vx (⟨t, iter, ifs, 0⟩ :: gs) csc p) csc env pos newDict false (eval iter env) use) Q x := by
  obtain ⟨⟨_, hok⟩, h⟩ := h.iteI
  refine comp_run (R := AccD T) (acc₀ := ⟨if c.sk p then .ks [] else .ki [], []⟩) (P := fun r => P (.dict r.1.ks r.1.vs, r.2)) rfl rfl hok hi (fun D => accD_rel) (fun x Q h => wpAny_newObj_type (h _ x.s.toks ⟨[], ?_, .nil⟩)) (fun D => gens_ok rfl accD_rel (fun d hn => emitD_ok hk hv hn) rfl hg) hifs C
    (Sat.mapI (g := fun r : Acc × Sto => (AV.dict r.1.ks r.1.vs, r.2)) (by cases e : evSrc c Φ iter (ev c Φ iter sc) sc m σ <;> rw [e] at h <;> exact h)) (comp_fin (f := fun r => (.dict r.1.ks r.1.vs, r.2)) (accD_done O.sys) hQ)
  dsimp only
  split
  · exact ⟨rfl, Heap.DictOf.new _⟩
  · exact ⟨rfl, Heap.DictOf.new _⟩
theorem dictcomp_node (O : TopOk T c) {kx vx : Expr} (hk : EvOk T c Φ k kx) (hv : EvOk T c Φ k vx) (hi : SrcOk T c Φ k iter) (hifs : TrsOk T c Φ k ifs) (hg : GensOk T c Φ k gs) : EvOk T c Φ k (.DictComp kx vx (⟨t, iter, ifs, a⟩ :: gs) csc p) := fun A env sc m x σ P Q C h kt => by
  cases (Sat.iteI h).1.1
  rw [arm_eval_DictComp]
  exact dictcomp_run (use := none) O hk hv hi hifs hg C h kt
end
end Mine
namespace Mine
open PySem

section
variable {T : Tp} {c : Cfg} {Φ : Fns} {k : Nat} {A : Around} {env : Env} {sc csc : Scope} {m : Fm} {x y : St} {σ : Sto}

theorem evs_two {a b : Expr} {F : AV → AV → Sto → Option (Src × Sto)} {P : Src × Sto → Prop} (h : Sat ((ev c Φ a sc m σ).bind fun x => (ev c Φ b sc m x.2).bind fun y => F x.1 y.1 y.2) P) :
    Sat (evs c Φ [a, b] sc m σ) fun as => ∃ u v, as.1 = [u, v] ∧ Sat (F u v as.2) P := by
  obtain ⟨u, e1, h⟩ := h.bindI.mk'
  obtain ⟨v, e2, h⟩ := h.bindI.mk'
  show Sat (Option.bind _ _) _
  rw [e1]
  show Sat (Option.map _ (Option.bind _ _)) _
  rw [e2]
  exact ⟨_, _, rfl, h⟩

/-- zip of two lists: its iterator stands -/
theorem zip_ok (I : Inv T y σ) {l1 l2 e1 e2 : Nat} {xs ys : List AV} {vs us : List Value} (s1 : SeqAt y lobj .fz l1 xs.length (RepL T y xs) vs e1) (s2 : SeqAt y lobj .fz l2 ys.length (RepL T y ys) us e2) {Q : Value → Shared → Prop}
    (kt : ∀ O a z, It0 T y (.pairs (zipA xs ys), σ) O a z → Q (.ref a) z.s) : Wp T A (call (.type "zip") [.ref l1, .ref l2]) (fun v s₁ => wpAny (model T.prog T.w) A (pyIter v) Q NoE s₁) y := by
  refine call_zip_2 (lobj_list s1.g) (lobj_list s2.g) fun h' hz hTI hTO i1 i2 hsz hk => wpAny_pyIter_zip hz ?_
  have M : Ext y (y.re h' y.s.toks fun b => if b < y.h.objs.size then y.κ b else .tmp) := .old hk fun b o e => if_pos (Heap.lt_size e)
  have la {l : Nat} (i : Nat) (h : l < y.h.objs.size) : l ≠ y.h.objs.size + i := Nat.ne_of_lt (Nat.lt_of_lt_of_le h (Nat.le_add_right _ _))
  have ap (i j : Nat) (h : i ≠ j) : y.h.objs.size + i ≠ y.h.objs.size + j := fun q => h (Nat.add_left_cancel q)
  have t1 := Heap.lt_size s1.g
  have t2 := Heap.lt_size s2.g
  have D : ZipApart (y.h.objs.size + 4) (y.h.objs.size + 2) (y.h.objs.size + 3) y.h.objs.size (y.h.objs.size + 1) l1 l2 := ⟨ap 2 4 (by decide), ap 3 4 (by decide), ap 0 4 (by decide), ap 1 4 (by decide), ap 2 3 (by decide), ap 2 0 (by decide), ap 2 1 (by decide), ap 3 0 (by decide), ap 3 1 (by decide), ap 0 1 (by decide),
    la 4 t1, la 3 t1, la 0 t1, la 1 t1, la 4 t2, la 3 t2, la 0 t2, la 1 t2⟩
  have at_ (i : Nat) : (if y.h.objs.size + i < y.h.objs.size then y.κ (y.h.objs.size + i) else Col.tmp) = .tmp := if_neg (Nat.not_lt.mpr (Nat.le_add_right _ _))
  refine kt [y.h.objs.size + 4, y.h.objs.size + 2, y.h.objs.size + 3, y.h.objs.size, y.h.objs.size + 1] _ (y.re h' y.s.toks fun b => if b < y.h.objs.size then y.κ b else .tmp) ⟨M.step, M.inv I rfl, .mk D hz hTI ⟨_, _, hTO⟩ i1 i2 (s1.go M.go id M.repL) (s2.go M.go id M.repL), fun b hb => ?_, fun b hb => ?_⟩
  · rcases List.mem_cons.mp hb with rfl | hb
    · exact ⟨at_ 4, _, hz⟩
    rcases List.mem_cons.mp hb with rfl | hb
    · exact ⟨at_ 2, _, hTI⟩
    rcases List.mem_cons.mp hb with rfl | hb
    · exact ⟨at_ 3, _, hTO⟩
    rcases List.mem_cons.mp hb with rfl | hb
    · exact ⟨at_ 0, i1.elim fun o h => ⟨o, h.1⟩⟩
    cases List.mem_singleton.mp hb
    exact ⟨at_ 1, i2.elim fun o h => ⟨o, h.1⟩⟩
  · refine Heap.get?_none_of_le ?_
    rcases List.mem_cons.mp hb with rfl | hb
    · exact Nat.le_add_right _ _
    rcases List.mem_cons.mp hb with rfl | hb
    · exact Nat.le_add_right _ _
    rcases List.mem_cons.mp hb with rfl | hb
    · exact Nat.le_add_right _ _
    rcases List.mem_cons.mp hb with rfl | hb
    · exact Nat.le_refl _
    cases List.mem_singleton.mp hb
    exact Nat.le_add_right _ _

/-- a call gives a source -/
theorem src_value (hΦ : FnsOk T Φ k) {g : AV} {f : Value} {as : List AV} {vs : List Value} {p : Pos} {P : Src × Sto → Prop} {Q : Value → Shared → Prop} (hA : AOk A k) (I : Inv T y σ) (h : Sat ((callV c Φ p g as σ).bind fun r => some (.val r.1, r.2)) P) (rg : Rep T y g f)
    (r : RepL T y as vs) (hit : ∀ r, P r → Sat (r.1.items r.2) fun _ => True) (kt : ∀ r O a z, P r → It0 T y r O a z → Q (.ref a) z.s) : Wp T A (call f vs) (fun v s₁ => wpAny (model T.prog T.w) A (pyIter v) Q NoE s₁) y :=
  callV_ok hΦ hA I h.bindI rg r fun v u w h E => iter_ok E.I E.R (hit _ h) fun z a S I hnone hO hn M it => kt _ [a] a z h ⟨E.S.te S, I, it, hO, fun b hb => E.S.none (by rw [List.mem_singleton.mp hb]; exact hnone)⟩
theorem srcCall_ok (hΦ : FnsOk T Φ k) {g a b : AV} {f : Value} {vs : List Value} {p : Pos} {P : Src × Sto → Prop} {Q : Value → Shared → Prop} (hA : AOk A k) (I : Inv T y σ) (h : Sat (srcCall c Φ p g a b σ) P) (rg : Rep T y g f)
    (r : RepL T y [a, b] vs) (hit : ∀ r, P r → Sat (r.1.items r.2) fun _ => True) (kt : ∀ r O a z, P r → It0 T y r O a z → Q (.ref a) z.s) : Wp T A (call f vs) (fun v s₁ => wpAny (model T.prog T.w) A (pyIter v) Q NoE s₁) y := by
  cases g with
  | bi n =>
    rcases h.iteE with ⟨rfl, h⟩ | h
    · cases (show biV .zip = f from rg)
      obtain ⟨v1, us, rfl, r1, r⟩ := r
      obtain ⟨v2, us, rfl, r2, r⟩ := r
      cases (show us = [] from r)
      exact onVal_rep (C := fun v1 => Wp T A (call (.type "zip") [v1, v2]) (fun v s₁ => wpAny (model T.prog T.w) A (pyIter v) Q NoE s₁) y) r1 h fun xs l1 vs e1 s1 h =>
        onVal_rep (C := fun v2 => Wp T A (call (.type "zip") [.ref l1, v2]) (fun v s₁ => wpAny (model T.prog T.w) A (pyIter v) Q NoE s₁) y) r2 h fun ys l2 us e2 s2 h => zip_ok I s1 s2 fun O a z J => kt _ O a z h J
    · exact src_value (c := c) (p := p) (g := .bi n) hΦ hA I h rg r hit kt
  | glob n => exact src_value (c := c) (p := p) (g := .glob n) hΦ hA I h rg r hit kt
  | _ => exact h.elim
theorem srcCall_fn {g a b : AV} {p : Pos} {P : Src × Sto → Prop} (h : Sat (srcCall c Φ p g a b σ) P) : isFn g = true := by
  cases g with
  | bi n => rfl
  | glob n => rfl
  | _ => exact h.elim
/-- a call of two arguments is a source: zip's pairs, or a value -/
theorem src_call (O : TopOk T c) (hΦ : FnsOk T Φ k) {f : Str} {fp p : Pos} {a b : Expr} (ha : EvOk T c Φ k a) (hb : EvOk T c Φ k b) : SrcOk T c Φ k (.Call (.Name f fp) [a, b] [] p) := fun A env sc m x σ P Q C h hit kt => ⟨fun v => rfl, by
  have z := look_ok (A := A) O C.I C.F h.bindI (Q := fun u s₁ => wpAny (model T.prog T.w) A (callWith p u [] (backTo p (starEach [a, b] env)) []) (fun v s₁ => wpAny (model T.prog T.w) A (pyIter v) Q NoE s₁) NoE s₁) fun g u h R => by
    have h := evs_two h
    obtain ⟨as, _, _, _, _, h'⟩ := h.mk'
    exact callWith_ok O (args_plain h).1 (srcCall_fn h') R fun q => evalArgs_ok (evs_cons ha (evs_cons hb evs_nil)) C h fun r us y h E => ⟨⟨y, _, E.I, rfl⟩, by
      obtain ⟨u1, u2, e, h⟩ := h
      exact srcCall_ok hΦ C.A E.I h (E.rep R) (e ▸ E.R) hit fun r O a z h J => kt r O a z h ⟨E.S.te J.S, J.I, J.it, J.hO, fun b hb => E.S.none (J.hn b hb)⟩⟩
  exact PyProof.Rows.Call_Name rfl (wpAny_Name z.2 z.1)⟩
end
end Mine
namespace Mine
open PySem

/-- how a statement ends -/
noncomputable def FlR (T : Tp) (x : St) : Fl → Flow → Prop
  | .next, f => f = .next
  | .brk, f => f = .brk
  | .cont, f => f = .cont
  | .ret v, f => ∃ u, f = .ret u ∧ Rep T x v u
structure Ex (T : Tp) (env : Env) (sc : Scope) (x : St) (r : Fl × Fm × Sto) (f : Flow) (y : St) : Prop where
  b : Bd T (Owns env sc) env sc x r.2.2 r.2.1 y
  f : FlR T y r.1 f
noncomputable abbrev Kx (T : Tp) (env : Env) (sc : Scope) (x : St) (P : Fl × Fm × Sto → Prop) (Q : Flow → Shared → Prop) : Prop := ∀ r f y, P r → Ex T env sc x r f y → Q f y.s
noncomputable def SOk (T : Tp) (k : Nat) (g : Scope → Fm → Sto → Option (Fl × Fm × Sto)) (p : Env → Sem Flow) : Prop :=
  ∀ (A : Around) (env : Env) (sc : Scope) (m : Fm) (x : St) (σ : Sto) (P : Fl × Fm × Sto → Prop) (Q : Flow → Shared → Prop), Cx T k A env sc m x σ → Sat (g sc m σ) P → Kx T env sc x P Q → Wp T A (p env) Q x
noncomputable def ExOk (T : Tp) (c : Cfg) (Φ : Fns) (k : Nat) (st : Stmt) : Prop := SOk T k (ex c Φ st) (exec st)
noncomputable def ExsOk (T : Tp) (c : Cfg) (Φ : Fns) (k : Nat) (ss : List Stmt) : Prop := SOk T k (exs c Φ ss) (execs ss)

section
variable {T : Tp} {c : Cfg} {Φ : Fns} {k : Nat} {A : Around} {env : Env} {sc : Scope} {m m' : Fm} {x y : St} {σ σ' : Sto} {P : Fl × Fm × Sto → Prop} {Q : Flow → Shared → Prop}

theorem SOk.at {g : Scope → Fm → Sto → Option (Fl × Fm × Sto)} {p : Env → Sem Flow} (h : SOk T k g p) (C : Cx T k A env sc m x σ) (q : Sat (g sc m σ) P) (kt : Kx T env sc x P Q) : Wp T A (p env) Q x := h A env sc m x σ P Q C q kt
theorem Kx.on (kt : Kx T env sc x P Q) (S : Step (Ps (Owns env sc)) x y) : Kx T env sc y P Q := fun r f z p e => kt r f z p ⟨e.b.then S, e.f⟩
theorem Cx.bd (C : Cx T k A env sc m x σ) (b : Bd T (Owns env sc) env sc x σ' m' y) : Cx T k A env sc m' y σ' := ⟨C.A, b.I, b.F⟩
theorem End.bd {α β : Type} {R : St → β → α → Prop} {r : β × Sto} {u : α} (C : Cx T k A env sc m x σ) (e : End T R x r u y) : Bd T (Owns env sc) env sc x r.2 m y := ⟨e.S.ps, e.I, C.F.step e.S⟩
theorem Bd.refl (C : Cx T k A env sc m x σ) : Bd T (Owns env sc) env sc x σ m x := ⟨.refl, C.I, C.F⟩

theorem break_ok {p : Pos} : ExOk T c Φ k (.Break p) := fun A env sc m x σ P Q C h kt => wpAny_Break (kt _ _ x h ⟨.refl C, rfl⟩)
theorem continue_ok {p : Pos} : ExOk T c Φ k (.Continue p) := fun A env sc m x σ P Q C h kt => wpAny_Continue (kt _ _ x h ⟨.refl C, rfl⟩)
theorem return_ok {e : Expr} {p : Pos} (he : EvOk T c Φ k e) : ExOk T c Φ k (.Return (some e) p) := fun A env sc m x σ P Q C h kt =>
  wpAny_Return_some (he.at C h.mapI fun r u y h e => have B := e.bd C; kt (.ret r.1, m, r.2) _ y h ⟨B, u, rfl, e.R⟩)
theorem if_ok {t : Expr} {a b : List Stmt} {p : Pos} (ht : TrOk T c Φ k t) (ha : ExsOk T c Φ k a) (hb : ExsOk T c Φ k b) : ExOk T c Φ k (.If t a b p) := fun A env sc m x σ P Q C h kt =>
  wpAny_If (Ok.at ht C h.bindI fun r u y h e => by
    obtain ⟨d, σ'⟩ := r
    obtain rfl : d = u := e.R
    cases d
    · exact SOk.at hb (C.step e) h (kt.on e.S.ps)
    · exact SOk.at ha (C.step e) h (kt.on e.S.ps))

theorem FrOk.remap {n : Str} {v v' : AV} (F : FrOk T env sc m x) (hx : m n = some v) (hr : ∀ u, Rep T x v u → Rep T x v' u) : FrOk T env sc (m.set n v') x :=
  have main : ∀ j w, m.set n v' j = some w → ∃ w', m j = some w' ∧ ∀ u, Rep T x w' u → Rep T x w u := fun j w e => by
    unfold Fm.set at e
    by_cases hj : j = n
    · rw [if_pos hj] at e
      cases e
      exact ⟨v, hj ▸ hx, hr⟩
    · rw [if_neg hj] at e
      exact ⟨w, e, fun _ r => r⟩
  { F with
    ns := F.ns.elim fun mL q => ⟨mL, q.1, fun j w e hk => (main j w e).elim fun w' h => (q.2 j w' h.1 hk).elim fun u r => ⟨u, r.1, h.2 u r.2⟩⟩
    cel := fun j w e hk => (main j w e).elim fun w' h => (F.cel j w' h.1 hk).elim fun a r => r.elim fun u r => r.elim fun L r => ⟨a, u, L, r.1, h.2 u r.2⟩ }

/-- a location is let be: what it holds changes no more -/
theorem freeze_ok {W : Addr → Prop} (I : Inv T x σ) (F : FrOk T env sc m x) {n : Str} {P : Fm × Sto → Prop} (h : Sat (freezeA n m σ) P) : ∃ r y, P r ∧ y.s = x.s ∧ Bd T W env sc x r.2 r.1 y := by
  obtain ⟨v, hv, h⟩ := h.bindI.mk'
  cases v with
  | loc l =>
    exact onL_rep I (l := l) h fun xs vs ep hg q h => by
      have hne {a : Addr} (e : x.κ a ≠ .ob l) : a ≠ x.γ l := fun q' => e (q' ▸ q.c)
      have G : Go (fun a => a ≠ x.γ l) x ⟨x.s, upc x.κ (x.γ l) .fz, x.γ, x.n⟩ := recol_go (fun _ _ => rfl) (Nat.le_refl _)
      have fz : ∀ a, x.κ a = .fz → a ≠ x.γ l := fun a e => hne fun q => Col.noConfusion (e.symm.trans q)
      refine ⟨_, ⟨x.s, upc x.κ (x.γ l) .fz, x.γ, x.n⟩, h, rfl, ⟨fun _ _ e _ => e, fun _ o e => ⟨o, e⟩, fun a _ _ hob => upc_ne (hne fun q => by rw [q] at hob; cases hob), fun _ _ => rfl, Nat.le_refl _, rfl, rfl⟩, ⟨fun a o e => ⟨(I.base a o e).1, (upc_ne (fz a (I.base a o e).2)).trans (I.base a o e).2⟩, fun j o e => ?_, fun j o e => ?_, I.nx⟩,
        (F.go G fz fun a L e => hne fun q => Col.noConfusion (e.symm.trans q)).remap hv fun u r => ?_⟩
      · by_cases hj : j = l
        · exact none_some (if_pos hj) e
        · exact I.lt j o ((if_neg hj).symm.trans e)
      · by_cases hj : j = l
        · exact none_some (if_pos hj) e
        · have e' : σ.get j = some o := (if_neg hj).symm.trans e
          exact ORep.go G fz (I.lt j o e') (fun a e => hne fun q => hj (Col.ob.inj (e.symm.trans q))) o (I.objs j o e')
      · exact ⟨_, vs, ep, r.1, upc_self, q.g, q.b, q.q.go' G fz⟩
  | _ => exact h.elim
theorem freezes_ok {W : Addr → Prop} {ns : List Str} (I : Inv T x σ) (F : FrOk T env sc m x) {P : Fm × Sto → Prop} (h : Sat (freezes ns m σ) P) : ∃ r y, P r ∧ y.s = x.s ∧ Bd T W env sc x r.2 r.1 y := by
  induction ns generalizing m x σ with
  | nil => exact ⟨_, x, h, rfl, .refl, I, F⟩
  | cons n ns ih =>
    obtain ⟨r, y, h, e, b⟩ := freeze_ok (W := W) I F h.bindI
    obtain ⟨r', z, h, e', b'⟩ := ih b.I b.F h
    exact ⟨r', z, h, e'.trans e, b'.then b.S⟩

theorem exs_nil : ExsOk T c Φ k [] := fun A env sc m x σ P Q C h kt => wpAny_execs_nil (kt _ _ x h ⟨.refl C, rfl⟩)
theorem exs_cons {st : Stmt} {ss : List Stmt} (h1 : ExOk T c Φ k st) (h2 : ExsOk T c Φ k ss) : ExsOk T c Φ k (st :: ss) := fun A env sc m x σ P Q C h kt => by
  obtain ⟨r₀, y₀, h, e₀, b₀⟩ := freezes_ok (W := Owns env sc) C.I C.F h.bindI
  refine wpAny_execs_cons (e₀ ▸ SOk.at h1 (C.bd b₀) h.bindI fun r f y h e => ?_)
  obtain ⟨fl, m', σ'⟩ := r
  have b := e.b.then b₀.S
  cases fl with
  | next => cases e.f; exact SOk.at h2 (C.bd b) h (kt.on b.S)
  | brk => cases e.f; exact kt _ _ y h ⟨b, rfl⟩
  | cont => cases e.f; exact kt _ _ y h ⟨b, rfl⟩
  | ret v => obtain ⟨u, rfl, R⟩ := e.f; exact kt _ _ y h ⟨b, u, rfl, R⟩

/-- a turn's end: the loop goes on, or it ends -/
noncomputable def TurnEnd (I : Nat → Shared → Prop) (n : Nat) (Q : Flow → Shared → Prop) (f : Flow) (s : Shared) : Prop := match f with
  | .next | .cont => ∃ j, j < n ∧ I j s
  | .brk => Q .next s
  | .ret u => Q (.ret u) s
theorem end_turn {n : Nat} {go : Fm × Sto → Option (Fl × Fm × Sto)} {r : Fl × Fm × Sto} {f : Flow} {I : Nat → Shared → Prop} {s : Shared} (h : Sat (endA go r) P) (e : FlR T y r.1 f) (hI : Sat (go r.2) P → ∃ j, j < n ∧ I j s)
    (hb : P (.next, r.2) → Q .next s) (hr : ∀ v u, P (.ret v, r.2) → Rep T y v u → Q (.ret u) s) : TurnEnd I n Q f s := by
  obtain ⟨fl, r⟩ := r
  cases fl with
  | next => cases e; exact hI h
  | cont => cases e; exact hI h
  | brk => cases e; exact hb h
  | ret v => obtain ⟨u, rfl, R⟩ := e; exact hr v u h R
/-- ahead of a turn of while -/
noncomputable def WhileI (T : Tp) (c : Cfg) (Φ : Fns) (env : Env) (sc : Scope) (x : St) (t : Expr) (b : List Stmt) (P : Fl × Fm × Sto → Prop) (n : Nat) (s : Shared) : Prop := ∃ y m σ, y.s = s ∧ Bd T (Owns env sc) env sc x σ m y ∧
  Sat (whileA (fun s : Fm × Sto => (tr c Φ t (ev c Φ t sc) sc s.1 s.2).map fun r => (r.1, s.1, r.2)) (fun s => exs c Φ b sc s.1 s.2) n (m, σ)) P
theorem while_ok {t : Expr} {b : List Stmt} {p : Pos} (ht : TrOk T c Φ k t) (hb : ExsOk T c Φ k b) : ExOk T c Φ k (.While t b [] p) := fun A env sc m x σ P Q C h kt => by
  refine wpAny_While (codeAny_whileLoop (WhileI T c Φ env sc x t b P) ?_ c.fuel ⟨x, m, σ, rfl, .refl C, h⟩)
  rintro n _ ⟨y, m, σ, rfl, B, h⟩
  cases n with
  | zero => exact h.elim
  | succ n =>
    refine wpAny_mono (E := NoE) (Ok.at ht (C.bd B) (Sat.mapI h.bindI) fun r u z h e => ?_) (fun _ _ q => q) fun _ _ q => q.elim
    obtain ⟨d, σ'⟩ := r
    obtain rfl : d = u := e.R
    have B2 := (e.bd (C.bd B)).then B.S
    cases d with
    | false => exact wpAny_execs_nil (kt _ _ z h ⟨B2, rfl⟩)
    | true =>
      refine wpAny_mono (E := NoE) (SOk.at hb (C.bd B2) (Sat.bindI h) fun r f w h e => ?_) (fun _ _ q => q) fun _ _ q => q.elim
      have B3 := e.b.then B2.S
      exact end_turn (I := WhileI T c Φ env sc x t b P) (Q := Q) h e.f (fun h => ⟨n, Nat.lt_succ_self n, w, r.2.1, r.2.2, rfl, B3, h⟩) (fun h => kt _ _ w h ⟨B3, rfl⟩) fun v u h R => kt _ _ w h ⟨B3, u, rfl, R⟩
end
end Mine
namespace Mine
open PySem

theorem forLoop_wp {prog : Program} {w : World} {A : Around} {env : Env} {t : Expr} {it : Value} {body : List Stmt} {Q : Flow → Shared → Prop} {R : Result → Shared → Prop} {s : Shared} (hR : ∀ f s, Q f s → R (.ok f) s) (I : Nat → Shared → Prop)
    (turn : ∀ n s, I n s → wpAny (model prog w) A (pyNext it) (fun r s₁ => match r with
      | none => Q .next s₁
      | some v => wpAny (model prog w) A (letOwnedTupleGo t it v) (fun _ s₂ => wpAny (model prog w) A (assign t env v) (fun _ s₃ => wpAny (model prog w) A (execs body env) (TurnEnd I n Q) NoE s₃) NoE s₂) NoE s₁) NoE s)
    (n : Nat) (h : I n s) : codeAny (model prog w) A (.forLoop t it body [] env) R s := by
  refine codeAny_loop' rfl I (fun n s hI => ?_) n h
  show wpAny _ A ((forTurn t it body [] env).onRaise (fun x => do noteFrame x env; theTreesLotGoes x)) _ _ s
  refine wpAny_onRaise (wpAny_mono (Q := fun fin s' => match fin with
        | .done f => R (.ok f) s'
        | .again c' => (c' = .forLoop t it body [] env ∧ ∃ m, m < n ∧ I m s') ∨ (c'.quiet = true ∧ codeAny (model prog w) A c' R s')) (E := NoE) ?_ (fun _ _ q => q) fun _ _ z => z.elim)
  refine wpAny_bind (wpAny_standAt (wpAny_bind (wpAny_onRaise (wpAny_mono (turn n s hI) (fun r s₁ h₁ => ?_) fun _ _ z => z.elim))))
  cases r with
  | none => exact wpAny_pure (.inr ⟨rfl, codeAny_block (wpAny_execs_nil (hR _ _ h₁))⟩)
  | some v =>
    refine wp_bind h₁ fun _ s₂ h₂ => wp_bind h₂ fun _ s₃ h₃ => wp_bind h₃ fun f s₄ h₄ => ?_
    cases f with
    | next => exact wpAny_pure (.inl ⟨rfl, h₄⟩)
    | cont => exact wpAny_pure (.inl ⟨rfl, h₄⟩)
    | brk => exact wpAny_pure (hR _ _ h₄)
    | ret v => exact wpAny_pure (hR _ _ h₄)

section
variable {T : Tp} {c : Cfg} {Φ : Fns} {k : Nat}

/-- ahead of a turn of for -/
structure ForI (T : Tp) (k : Nat) (A : Around) (env : Env) (sc : Scope) (x₀ : St) (a : Addr) (src : Src) (i : Nat) (m : Fm) (σ : Sto) (y : St) : Prop where
  b : Bd T (Owns env sc) env sc x₀ σ m y
  it : ItOk T y [a] i a src
  hO : Tmps y [a]
theorem for_ok {t e : Expr} {b : List Stmt} {p : Pos} (he : EvOk T c Φ k e) (hb : ExsOk T c Φ k b) : ExOk T c Φ k (.For t e b [] p) := fun A env sc m x σ P Q C h kt => by
  refine wpAny_For (he.at C h.bindI fun v u y h E => ?_) ((plain_of h.bindI).fold env)
  obtain ⟨xs, hxs, h⟩ := h.bindI.mk'
  refine iter_ok E.I E.R (P := fun _ => True) (by rw [hxs]; exact trivial) fun z a S I hnone hO hn M it => ?_
  have hnew : ∀ b ∈ [a], x.h.get? b = none := fun b hb => E.S.none (by rw [List.mem_singleton.mp hb]; exact hnone)
  refine forLoop_wp (Q := Q) (fun _ _ q => q) (fun n s => ∃ y m σ i, y.s = s ∧ ForI T k A env sc x a (.val v.1) i m σ y ∧ Sat (iterA (fun s : Fm × Sto => items? s.2 v.1) (fun w s => (bindT sc t w s.1).bind fun m => exs c Φ b sc m s.2) n i (m, σ)) P) ?_ xs.length
    ⟨z, m, v.2, 0, rfl, ⟨⟨(E.S.te S).ps, I, (C.F.step E.S).step S⟩, it, hO⟩, h⟩
  rintro n _ ⟨y, m, σ, i, rfl, J, h⟩
  obtain ⟨ys, hys, hend, hitem⟩ := iterA_turn h
  refine next_ok (t := t) C.A.handled J.b.I J.it J.hO (show Src.items σ (.val v.1) = some ys from hys) rfl ⟨fun hx y' M hn' => ?_, fun b v₁ s₁ hx hgo => ?_⟩
  · exact kt _ _ y' (hend hx) ⟨⟨J.b.S.but M hnew, J.hO.inv M hn' J.b.I, J.hO.fr M J.b.F⟩, rfl⟩
  · obtain ⟨j, hj, h⟩ := hitem b hx
    refine hgo _ fun y2 N => ?_
    have F2 := J.hO.fr N.M J.b.F
    refine bindT_ok C.A.handled (fun _ h => h) (J.hO.inv N.M N.n J.b.I) F2 N.r h.bindI fun m' y3 h B => ?_
    have it3 := N.it.steps N.t (fun b hb h => h.tmp F2 (N.t b hb).1) B.S
    have hO3 := N.t.step B.S
    refine SOk.at hb ⟨C.A, B.I, B.F⟩ h fun r f y4 h e => ?_
    have B4 := (e.b.then B.S).then (J.b.S.but N.M hnew)
    exact end_turn (Q := Q) h e.f (fun h => ⟨j, hj, y4, r.2.1, r.2.2, i + 1, rfl, ⟨B4, it3.steps hO3 (fun b hb h => h.tmp B.F (hO3 b hb).1) e.b.S, hO3.step e.b.S⟩, h⟩) (fun h => kt _ _ y4 h ⟨B4, rfl⟩) fun v u h R => kt _ _ y4 h ⟨B4, u, rfl, R⟩
end
end Mine
namespace Mine
open PySem

theorem swaps_name (e : Expr) (n : Str) (q : Pos) (line : Nat) (env : Env) : ∃ b, swapsWith e (some (.Name n q)) line env = pure b ∧ (b = true → isComp e = true) := by
  cases e with
  | ListComp _ _ _ _ => exact ⟨_, rfl, fun _ => rfl⟩
  | SetComp _ _ _ _ => exact ⟨_, rfl, fun _ => rfl⟩
  | DictComp _ _ _ _ _ => exact ⟨_, rfl, fun _ => rfl⟩
  | _ => exact ⟨false, rfl, Bool.noConfusion⟩
theorem swaps_tuple (e : Expr) (ts : List Expr) (j : Nat) (q : Pos) (line : Nat) (env : Env) : swapsWith e (some (.Tuple ts j q)) line env = pure false := by
  cases e <;> rfl
theorem swaps_none {e : Expr} (h : isComp e = false) (line : Nat) (env : Env) : swapsWith e none line env = pure false := by
  cases e with
  | ListComp _ _ _ _ => exact Bool.noConfusion h
  | SetComp _ _ _ _ => exact Bool.noConfusion h
  | DictComp _ _ _ _ _ => exact Bool.noConfusion h
  | _ => rfl

section
variable {T : Tp} {c : Cfg} {Φ : Fns} {k : Nat} {A : Around} {env : Env} {sc : Scope} {m m' : Fm} {x y : St} {σ : Sto} {P : Fm → Prop} {v : AV} {u : Value} {Q : Unit → Shared → Prop}

theorem expr_ok {e : Expr} {p : Pos} (he : EvOk T c Φ k e) : ExOk T c Φ k (.Expr e p) := fun A env sc m x σ P Q C h kt => by
  obtain ⟨hc, h⟩ := h.iteI
  rw [exec_Expr (env := env) (e := e) (pos := p) (hi := by unfold interactive; rw [C.F.kind]; rfl) (hs := swaps_none hc _ _)]
  exact wpAny_bind (wpAny_standAt (wpAny_bind (he.at C h.mapI fun r u y h e => wpAny_dropValue (by have B := e.bd C; exact kt (.next, m, r.2) _ y h ⟨B, rfl⟩))))

/-- a value is stored into a target by the plain road -/
theorem store_plain (hh : A.handled = none) {t : Expr} (I : Inv T x σ) (F : FrOk T env sc m x) (r : Rep T x v u) (h : Sat (bindT sc t v m) P) (kt : ∀ m' y, P m' → Bd T (Owns env sc) env sc x σ m' y → Q () y.s) :
    Wp T A (assignAll u ((assignEach [t] env).map (·.2))) Q x := by
  cases t with
  | Name n p => exact bindT_ok hh (fun _ h => h) I F r h kt
  | Tuple ts j p => exact bindT_ok hh (fun _ h => h) I F r h kt
  | _ => exact h.elim
/-- names are bound one behind the other, from the last -/
theorem bindEach_ok {ns : List Str} {vs : List AV} {us : List Value} (I : Inv T x σ) (F : FrOk T env sc m x) (hx : ∀ n ∈ ns, mayBind sc n) (hl : ns.length = vs.length) (r : RepL T x vs us)
    (kt : ∀ y, Bd T (Owns env sc) env sc x σ ((ns.zip vs).foldl (fun m p => m.set p.1 p.2) m) y → Q () y.s) : Wp T A (assignInOrder (ns.map fun n => PySem.bindName env n) us) Q x := by
  induction ns generalizing vs us m x with
  | nil =>
    cases vs with
    | nil => exact repL_nil (C := fun us => Wp T A (assignInOrder _ us) Q x) r (PyProof.Rows.assignInOrder_nil (kt x ⟨.refl, I, F⟩))
    | cons v vs => exact Nat.noConfusion hl
  | cons n ns ih =>
    cases vs with
    | nil => exact Nat.noConfusion hl
    | cons v vs =>
      exact repL_cons (C := fun us => Wp T A (assignInOrder _ us) Q x) r fun u us r1 r2 => PyProof.Rows.assignInOrder_cons (wpAny_bindName (bind_ok I F (hx n (.head _)) r1 fun y S I' F' _ =>
        ih I' F' (fun j hj => hx j (.tail _ hj)) (Nat.succ.inj hl) (r2.steps S) fun z b => kt z (b.then S)))
end
end Mine
namespace Mine
open PySem

theorem eraseDups_nodup (n : Nat) (l : List Str) (h : l.length ≤ n) : l.eraseDups.length ≤ l.length ∧ (l.eraseDups.length = l.length → l.Nodup) := by
  induction n generalizing l with
  | zero =>
    cases l with
    | nil => exact ⟨Nat.le_refl _, fun _ => List.nodup_nil⟩
    | cons x xs => exact absurd h (Nat.not_succ_le_zero _)
  | succ n ih =>
    cases l with
    | nil => exact ⟨Nat.le_refl _, fun _ => List.nodup_nil⟩
    | cons x xs =>
      rw [List.eraseDups_cons]
      have hf : (xs.filter fun b => !b == x).length ≤ xs.length := List.length_filter_le _ _
      have i := ih (xs.filter fun b => !b == x) (Nat.le_trans hf (Nat.le_of_succ_le_succ h))
      refine ⟨Nat.succ_le_succ (Nat.le_trans i.1 hf), fun e => ?_⟩
      have e := Nat.succ.inj e
      have e1 : (xs.filter fun b => !b == x).length = xs.length := Nat.le_antisymm hf (e ▸ i.1)
      have e2 := List.length_filter_eq_length_iff.mp e1
      rw [List.filter_eq_self.mpr e2] at i e
      refine List.nodup_cons.mpr ⟨fun hm => ?_, i.2 e⟩
      have := e2 x hm
      rw [beq_self_eq_true] at this
      cases this
theorem filterMap_full {α β : Type} (f : α → Option β) (l : List α) (h : (l.filterMap f).length = l.length) : l.map f = (l.filterMap f).map some := by
  induction l with
  | nil => rfl
  | cons x xs ih =>
    cases hf : f x with
    | none =>
      rw [List.filterMap_cons_none hf] at h
      exact absurd (h ▸ List.length_filterMap_le f xs) (Nat.not_succ_le_self _)
    | some y =>
      rw [List.filterMap_cons_some hf] at h ⊢
      rw [List.map_cons, List.map_cons, hf, ih (Nat.succ.inj h)]

theorem zip_rev {α β : Type} (xs : List α) (ys : List β) (h : xs.length = ys.length) : xs.reverse.zip ys.reverse = (xs.zip ys).reverse := by
  rw [List.zip_eq_zipWith, List.zip_eq_zipWith, List.reverse_zipWith h]
theorem zip_mem_inj {α β : Type} {xs : List α} {ys : List β} (hn : xs.Nodup) : ∀ p ∈ xs.zip ys, ∀ q ∈ xs.zip ys, p.1 = q.1 → p = q := by
  induction xs generalizing ys with
  | nil => exact fun p hp => absurd hp List.not_mem_nil
  | cons x xs ih =>
    cases ys with
    | nil => exact fun p hp => absurd hp List.not_mem_nil
    | cons y ys =>
      intro p hp q hq e
      have hn' := List.nodup_cons.mp hn
      have hin {r : α × β} (h : r ∈ xs.zip ys) : r.1 ∈ xs := (List.of_mem_zip (a := r.1) (b := r.2) h).1
      rcases List.mem_cons.mp hp with rfl | hp <;> rcases List.mem_cons.mp hq with rfl | hq
      · rfl
      · exact absurd (show x ∈ xs from (show x = q.1 from e).symm ▸ hin hq) hn'.1
      · exact absurd (show x ∈ xs from (show p.1 = x from e) ▸ hin hp) hn'.1
      · exact ih hn'.2 p hp q hq e
theorem sets_rev {ns : List Str} {vs : List AV} (hn : ns.Nodup) (hl : ns.length = vs.length) (m : Fm) :
    (ns.reverse.zip vs.reverse).foldl (fun m p => m.set p.1 p.2) m = (ns.zip vs).foldl (fun m p => m.set p.1 p.2) m := by
  rw [zip_rev _ _ hl]
  refine List.Perm.foldl_eq' (List.reverse_perm _) (fun p hp q hq z => ?_) m
  by_cases e : p.1 = q.1
  · rw [zip_mem_inj hn p (List.mem_reverse.mp hp) q (List.mem_reverse.mp hq) e]
  · funext y
    unfold Fm.set
    by_cases h1 : y = p.1
    · rw [if_pos h1, if_neg fun h => e (h1.symm.trans h), if_pos h1]
    · rw [if_neg h1, if_neg h1]

/-- a comprehension whose value is put to use at once -/
noncomputable def UseOk (T : Tp) (c : Cfg) (Φ : Fns) (k : Nat) (e : Expr) : Prop := ∀ (A : Around) (env : Env) (sc : Scope) (m : Fm) (x : St) (σ : Sto) (P : AV × Sto → Prop) (us : Value → Sem Unit) (Q : Unit → Shared → Prop), Cx T k A env sc m x σ → Sat (ev c Φ e sc m σ) P →
  (∀ r D C z, P r → Ev T x r (.ref D) z → z.κ C = .fr C → x.h.get? C = none → (∃ mC, z.h.Ns C mC) → UseW T A us D C (fun _ => Q ()) z.s) → Wp T A (evalThenUse e env us) Q x

section
variable {T : Tp} {c : Cfg} {Φ : Fns} {k : Nat} {A : Around} {env : Env} {sc csc : Scope} {m m' : Fm} {x y : St} {σ : Sto} {t iter : Expr} {ifs : List Expr} {gs : List Comprehension} {a : Int} {p : Pos}

theorem use_pure {us : Value → Sem Unit} {D C : Addr} {Q : Unit → Shared → Prop} {s : Shared} (h : UseW T A us D C (fun _ => Q ()) s) : UseW T A us D C (fun _ s' => wpAny (model T.prog T.w) A (pure ()) Q NoE s') s :=
  wpAny_mono h (fun _ _ h => h.elim fun mC h => ⟨mC, h.1, fun h' hs => wpAny_pure (h.2 h' hs)⟩) fun _ _ z => z
theorem use_list {elt : Expr} (hx : EvOk T c Φ k elt) (hi : SrcOk T c Φ k iter) (hifs : TrsOk T c Φ k ifs) (hg : GensOk T c Φ k gs) : UseOk T c Φ k (.ListComp elt (⟨t, iter, ifs, a⟩ :: gs) csc p) := fun A env sc m x σ P us Q C h kt => by
  cases (Sat.iteI h).1.1
  rw [arm_evalThenUse_ListComp]
  exact wpAny_bind (listcomp_run (use := some us) (Q := fun _ s' => wpAny _ A (pure ()) Q NoE s') hx hi hifs hg C h fun r D C z h E h1 h2 h3 => use_pure (kt r D C z h E h1 h2 h3))
theorem use_dict (O : TopOk T c) {kx vx : Expr} (hk : EvOk T c Φ k kx) (hv : EvOk T c Φ k vx) (hi : SrcOk T c Φ k iter) (hifs : TrsOk T c Φ k ifs) (hg : GensOk T c Φ k gs) : UseOk T c Φ k (.DictComp kx vx (⟨t, iter, ifs, a⟩ :: gs) csc p) := fun A env sc m x σ P us Q C h kt => by
  cases (Sat.iteI h).1.1
  rw [arm_evalThenUse_DictComp]
  exact wpAny_bind (dictcomp_run (use := some us) (Q := fun _ s' => wpAny _ A (pure ()) Q NoE s') O hk hv hi hifs hg C h fun r D C z h E h1 h2 h3 => use_pure (kt r D C z h E h1 h2 h3))
end
end Mine
namespace Mine
open PySem

theorem bindNames_eq {sc : Scope} {ts : List Expr} {vs : List AV} {m : Fm} {P : Fm → Prop} {ns : List Str} (h : Sat (bindNames sc ts vs m) P) (hn : ts.map asName = ns.map some) :
    (∀ n ∈ ns, mayBind sc n) ∧ ns.length = vs.length ∧ P ((ns.zip vs).foldl (fun m p => m.set p.1 p.2) m) := by
  induction ts generalizing vs m ns with
  | nil =>
    cases ns with
    | cons a b => cases hn
    | nil =>
      cases vs with
      | nil => exact ⟨fun _ hx => absurd hx List.not_mem_nil, rfl, h⟩
      | cons v vs => exact h.elim
  | cons t ts ih =>
    cases ns with
    | nil => cases hn
    | cons n ns =>
      cases vs with
      | nil => exact h.elim
      | cons v vs =>
        have hn := List.cons.inj hn
        obtain ⟨n', e, h⟩ := (Sat.bindI (Sat.bindI h)).mk'
        cases e.symm.trans hn.1
        have hs := setv_may h
        have i := ih hs.2 hn.2
        exact ⟨fun y hy => (List.mem_cons.mp hy).elim (fun e => e ▸ hs.1) (i.1 y), congrArg (· + 1) i.2.1, i.2.2⟩

theorem swapped_tuple {ts vs : List Expr} {j j' : Nat} {p p' : Pos} (h : vs.all (constantsAlone 8) = false) (env : Env) : swappedStores [.Tuple ts j p] (.Tuple vs j' p') env = pure none ∨
    ∃ ns, ts.map asName = ns.map some ∧ ns.Nodup ∧ swappedStores [.Tuple ts j p] (.Tuple vs j' p') env = pure (some ns) := by
  delta swappedStores
  dsimp only
  split
  · exact .inl rfl
  · split
    · exact .inl rfl
    · split
      · exact .inl rfl
      · rename_i hn
        split
        · exact .inl rfl
        · rw [h]
          have hn := Bool.or_eq_false_iff.mp (Bool.eq_false_iff.mpr hn)
          have h1 := bne_eq_false_iff_eq.mp hn.1
          refine .inr ⟨_, ?_, (eraseDups_nodup _ _ (Nat.le_refl _)).2 (bne_eq_false_iff_eq.mp hn.2), rfl⟩
          have h2 := filterMap_full _ ts h1
          rw [← h2]
          refine List.map_congr_left fun e he => ?_
          obtain ⟨n, _, hy⟩ := List.mem_map.mp (h2 ▸ List.mem_map_of_mem he)
          rw [← hy]
          revert hy
          cases e with
          | Name id pos =>
            intro hy
            dsimp only at hy
            split at hy
            · exact hy.symm
            · cases hy
          | _ => exact fun hy => by cases hy

section
variable {T : Tp} {c : Cfg} {Φ : Fns} {k : Nat} {A : Around} {env : Env} {sc : Scope} {m m' : Fm} {x y : St} {σ : Sto} {t e : Expr} {p : Pos} {P : Fl × Fm × Sto → Prop} {Q : Flow → Shared → Prop} {C : Addr}

theorem FrPl.owns {a : Addr} (h : Owns env sc a) : FrPl env sc a := h.elim .inl fun h => h.elim fun n h => .inr ⟨n, by rw [h.1]; rfl, h.2⟩
/-- a frame that is none of ours is let go -/
theorem Bd.other (B : Bd T (Owns env sc) env sc x σ m y) (hC : x.h.get? C = none) (hc : y.κ C = .fr C) (hF : ∀ a, FrPl env sc a → a ≠ C) {h' : Heap} {tk : Nat} (hs : Heap.SameBut C y.h h') : Bd T (Owns env sc) env sc x σ m (y.to h' tk) :=
  have M := But.same (x := y) (tk := tk) hs
  ⟨B.S.but M fun a e => e ▸ hC, M.inv B.I (fun a e => .inl ⟨C, e ▸ hc⟩) rfl, B.F.goP M.go (fun a e q => Col.noConfusion ((q ▸ e).symm.trans hc)) hF⟩
/-- the stores of an assignment behind its value -/
theorem stores_ok (hh : A.handled = none) {v : AV} {u : Value} (I : Inv T y σ) (F : FrOk T env sc m y) (R : Rep T y v u) (hok : okStores t e = true) {P : Fm → Prop} (h : Sat (bindT sc t v m) P) {Q : Flow → Shared → Prop} (kt : ∀ m' z, P m' → Bd T (Owns env sc) env sc y σ m' z → Q .next z.s) :
    Wp T A (do let sw ← swappedStores [t] e env; assignStores env u sw ((assignEach [t] env).map (·.2))) Q y := by
  have plain : Wp T A (assignStores env u none ((assignEach [t] env).map (·.2))) Q y := wpAny_bind (store_plain hh I F R h fun m' z h b => wpAny_pure (kt m' z h b))
  cases t with
  | Name n q => exact wpAny_bind (wpAny_pure plain)
  | Tuple ts j q =>
    cases e with
    | Tuple vs j' q' =>
      rcases swapped_tuple (ts := ts) (j := j) (p := q) (j' := j') (p' := q') (Eq.mp (Bool.not_eq_true' _) hok) env with hs | ⟨ns, h1, h2, hs⟩
      · rw [hs]; exact wpAny_bind (wpAny_pure plain)
      · rw [hs]
        refine wpAny_bind (wpAny_pure (wpAny_bind (wpAny_rule (wpAny_bind ?_))))
        exact onTup_rep (C := fun u => Wp T A (unpackItems u ns.length none) (fun items s₁ => wpAny (model T.prog T.w) A (assignInOrder (ns.reverse.map fun n => PySem.bindName env n) items.reverse >>= fun _ => pure Flow.next) Q NoE s₁) y) R h fun vs a us ep q h => by
          obtain ⟨b1, b2, b3⟩ := bindNames_eq h h1
          have hlen : ns.length = us.toArray.size := by rw [List.size_toArray, q.q.length, b2]
          rw [hlen]
          refine wpAny_unpackItems_tuple hh ⟨_, q.g, rfl, ep, rfl⟩ fun h' hext => wpAny_bind ?_
          have M : Ext y (y.to h' y.s.toks) := .old (fun b o e => hext b o (ne_size e) e) fun _ _ _ => rfl
          refine bindEach_ok (x := y.to h' y.s.toks) (vs := vs.reverse) (M.inv I rfl) (F.go M.go (fun _ _ => id) fun _ _ _ => id) (fun n hn => b1 n (List.mem_reverse.mp hn)) (by rw [List.length_reverse, List.length_reverse, b2]) (M.repL q.q).reverse fun z b => wpAny_pure (kt _ z b3 ?_)
          rw [sets_rev h2 b2] at b
          exact b.then M.step
    | _ => exact wpAny_bind (wpAny_pure plain)
  | _ => exact h.elim
theorem asg_ok (he : EvOk T c Φ k e) (hu : isComp e = true → UseOk T c Φ k e)
    (hf : ∀ sc m σ, ex c Φ (.Assign [t] e p) sc m σ = if okStores t e = true then (ev c Φ e sc m σ).bind fun v => (bindT sc t v.1 m).map fun m => (.next, m, v.2) else none) : ExOk T c Φ k (.Assign [t] e p) := fun A env sc m x σ P Q C h kt => by
  rw [hf] at h
  obtain ⟨hok, h⟩ := h.iteI
  have plain : Wp T A (do let v ← eval e env; let sw ← swappedStores [t] e env; assignStores env v sw ((assignEach [t] env).map (·.2))) Q x :=
    wpAny_bind (he.at C h.bindI fun r u y h E => stores_ok C.A.handled E.I (C.F.step E.S) E.R hok h.mapI fun m' z h b => kt _ _ z h ⟨b.then E.S.ps, rfl⟩)
  rw [PyProof.Rows.exec_Assign]
  refine wpAny_bind (wpAny_standAt ?_)
  obtain ⟨b, hb, hc⟩ : ∃ b, swapsWith e (some t) p.line env = pure b ∧ (b = true → isComp e = true) := by
    obtain ⟨r, _, h⟩ := h.bindI.mk'
    cases t with
    | Name n q => exact swaps_name e n q p.line env
    | Tuple ts j q => exact ⟨false, swaps_tuple e ts j q p.line env, Bool.noConfusion⟩
    | _ => exact h.mapI.elim
  show Wp T A (swapsWith e (some t) p.line env >>= _) Q x
  rw [hb]
  refine wpAny_bind (wpAny_pure ?_)
  cases b with
  | false => exact plain
  | true =>
    refine wpAny_bind (hu (hc rfl) A env sc m x σ _ _ _ C h.bindI fun r D C' z h E h1 h2 h3 => ?_)
    have F' := C.F.step E.S
    have hF : ∀ a, FrPl env sc a → a ≠ C' := fun a q e => (q.col C.F).elim fun L q => q.2.elim fun o g => none_some h2 (e ▸ g)
    refine store_plain C.A.handled E.I F' E.R h.mapI fun m' w h b => ?_
    obtain ⟨mC, o, es, ep, g, N⟩ := h3
    have hw : ¬ Ps (Owns env sc) C' (z.κ C') := by
      rw [h1]
      exact fun q => q.elim (fun q => Bool.noConfusion q) fun q => hF _ (FrPl.owns q.1) rfl
    have hcw : w.κ C' = .fr C' := (b.S.col C' o g (ob_fr h1)).trans h1
    exact ⟨mC, ⟨o, es, ep, b.S.keep C' o g hw, N⟩, fun h' hs => wpAny_pure (kt _ _ (w.to h' w.s.toks) h ⟨(b.then E.S.ps).other h2 hcw hF hs, rfl⟩)⟩
end
end Mine
namespace Mine
open PySem

theorem wpAny_inplaceOp_iconcat {M : Model} {A : Around} {E : Value → Shared → Prop} {s : Shared} {a b : Value} {T id : String} {Q : Value → Shared → Prop} (ha : s.TypeIs a T) (hb : s.TypeIs b T)
    (hi : typeLookup (.type T) (dunderI "add") = pure (some (.builtin id))) (hs : isSeqSlot (some (.builtin id)) = true) (hfill : fillsNumberSlot (.type T) "add" = pure false)
    (hc : wpAny M A (call (.builtin id) [a, b]) Q E s) : wpAny M A (inplaceOp .Add a b) Q E s := by
  unfold inplaceOp
  refine wpAny_holding ?_
  have hfi : fillsInplaceSlot (.type T) "add" (Operator.Add == .Add) = pure false := by
    unfold fillsInplaceSlot
    show (typeLookup (.type T) (dunderI "add") >>= fun fi => pure (fi.isSome && !isSeqSlot fi)) = pure false
    rw [hi]
    show (pure (true && !isSeqSlot (some (.builtin id))) : Sem Bool) = pure false
    rw [hs]; rfl
  have hsi : seqSlot? (.type T) (dunderI "add") = pure (some (.builtin id)) := seqSlot_of hi hs
  refine wpAny_bind (wpAny_typeOf ha (wpAny_bind (wpAny_of_eq hfi ?_)))
  show wpAny M A (if false = true then _ else _) Q E s
  rw [if_neg Bool.false_ne_true]
  refine wpAny_bind (wpAny_binaryOp1_none (nm := "add") ha hb hfill ?_)
  refine wpAny_bind (wpAny_of_eq hsi ?_)
  exact wpAny_bind (wpAny_rule hc)

section
variable {T : Tp} {c : Cfg} {Φ : Fns} {k : Nat} {A : Around} {env : Env} {sc : Scope} {m m' : Fm} {x y : St} {σ : Sto} {a b : AV} {u w : Value} {Pr : AV × Sto → Prop} {Q : Value → Shared → Prop}

theorem incL_ok (I : Inv T x σ) {l : Nat} (hl : l < x.n) (rb : Rep T x b w) (h : Sat (onL σ.get l fun xs => (lst? σ b).bind fun ys => if xs.length + ys.length ≤ 2 ^ 20 then some (.loc l, σ.upd l (.list (xs ++ ys))) else none) Pr) (kt : Kv T x Pr Q) :
    Wp T A (inplaceOp .Add (.ref (x.γ l)) w) Q x :=
  onL_rep I h fun xs vs ep hg q h => lst_rep I (C := fun w => Wp T A (inplaceOp .Add (.ref (x.γ l)) w) Q x) rb h fun ys j _ us ep' q' h => by
    obtain ⟨hsz, h⟩ := h.iteI
    have hn : (vs ++ us).length ≤ 2 ^ 20 := by rw [List.length_append, q.q.length, q'.q.length]; exact hsz
    have hn' : vs.toArray.size + us.toArray.size ≤ 2 ^ 20 := by rw [List.length_append] at hn; exact hn
    refine wpAny_inplaceOp_iconcat ⟨_, q.g, rfl⟩ ⟨_, q'.g, rfl⟩ PySem.F.slot_list_iadd.lookup (by decide +kernel) noFill_list_add ?_
    refine call_meets PySem.F.slot_list_iadd ⟨_, q.g, rfl⟩ PySem.F.entry_list_iadd (PySem.F.args_list_iadd_2 _ _) (AutoSeq1.list___iadd___list_list_0 (x.γ l) vs.toArray ep j us.toArray ep' ?_ ?_ ?_) ⟨q.g, q'.g, ?_⟩
    · simp only [Bool.and_eq_true, Bool.not_eq_true']
      rintro ⟨_, h⟩
      simp [Builtin.List.listTooLong, sizeLine] at h
      simp only [List.size_toArray] at hn'
      first | lia | omega
    · exact Nat.le_trans (Nat.le_trans (Nat.le_add_right _ _) hn') (show 2 ^ 20 ≤ sizeLine by decide)
    · simp only [List.size_toArray, sizeLine] at hn' ⊢; first | lia | omega
    · have hself := Heap.get?_update_self (Obj.mapSeq fun x => x ++ us.toArray) q.g rfl
      obtain ⟨e2, hh⟩ : ∃ e2, (x.h.update (x.γ l) (Obj.mapSeq fun x => x ++ us.toArray)).get? (x.γ l) = some (lobj (vs ++ us) e2) := by
        rw [hself]; simp [lobj, Obj.mapSeq]
      exact kt.upd I hl q (tk := x.s.toks) (Heap.SameBut.update ..) hh (by rw [List.length_append]; exact le20 hsz) (q.q.append q'.q) (r := .loc l) (u := .ref (x.γ l)) ⟨rfl, hl⟩ h
theorem inc_ok (I : Inv T x σ) {op : Operator} (ra : Rep T x a u) (rb : Rep T x b w) (h : Sat (incA σ op a b) Pr) (kt : Kv T x Pr Q) : Wp T A (inplaceOp op u w) Q x := by
  cases op with
  | Add =>
    cases a with
    | int i => exact ra.elim fun t e => e ▸ onInt_rep (C := fun w => Wp T A (inplaceOp .Add (.int i t) w) Q x) rb h fun j t' h => PyProof.Rows.iadd_int (kt.int I h)
    | str z => exact ra.elim fun t e => e ▸ onStr_rep (C := fun w => Wp T A (inplaceOp .Add (.str z t) w) Q x) rb h fun z' t' h => PyProof.Rows.iadd_str (fun _ _ => kt.str I h.iteI.2) h.iteI.1
    | loc l => exact ra.1 ▸ incL_ok I ra.2 rb h kt
    | _ => exact h.elim
  | _ => exact h.elim
theorem augname_ok (O : TopOk T c) {n : Str} {op : Operator} {e : Expr} {xp p : Pos} (he : EvOk T c Φ k e) : ExOk T c Φ k (.AugAssign (.Name n xp) op e p) := fun A env sc m x σ P Q C h kt =>
  wpAny_AugAssign_Name (look_ok (A := A) O C.I C.F h.bindI fun v u h R => he.at C h.bindI fun r w y h E => inc_ok E.I (E.rep R) E.R h.bindI fun z v' y2 h E2 => by
    obtain ⟨hm, h⟩ := setv_may h.mapI
    exact bind_ok E2.I ((C.F.step E.S).step E2.S) hm E2.R fun y3 S I F _ => kt _ _ y3 h ⟨⟨(E.S.te E2.S).ps.ts S, I, F⟩, rfl⟩).2
end
end Mine
namespace Mine
open PySem

section
variable (T : Tp) (c : Cfg) (Φ : Fns) (k : Nat)
structure COk (g : Comprehension) : Prop where
  src : SrcOk T c Φ k g.iter
  ev : EvOk T c Φ k g.iter
  trs : TrsOk T c Φ k g.ifs
structure OOk (o : Option Expr) : Prop where
  evo : EvoOk T c Φ k o
  all : ∀ e, o = some e → EvOk T c Φ k e
/-- what is known of an expression's parts where they are needed from without -/
noncomputable def Parts (e : Expr) : Prop := match e with
  | .Slice lo hi st _ => OOk T c Φ k lo ∧ OOk T c Φ k hi ∧ OOk T c Φ k st
  | .ListComp .. | .DictComp .. => UseOk T c Φ k e
  | .Attribute e _ _ => EvOk T c Φ k e
  | _ => True
structure MOk (e : Expr) : Prop where
  ev : EvOk T c Φ k e
  tr : TrOk T c Φ k e
  src : SrcOk T c Φ k e
  parts : Parts T c Φ k e
structure LOk (es : List Expr) : Prop where
  evs : EvsOk T c Φ k es
  evb : ∀ op, EvbOk T c Φ k op es
  trb : ∀ op, TrbOk T c Φ k op es
  trs : TrsOk T c Φ k es
  all : ∀ e ∈ es, MOk T c Φ k e
end

section
variable {T : Tp} {c : Cfg} {Φ : Fns} {k : Nat} {e : Expr}
theorem mk_val (he : EvOk T c Φ k e) (h1 : ∀ env w, isTrue e env w = (do let v ← w; standAt e.pos; holding [v] (truthy v))) (h2 : ∀ w sc m σ, tr c Φ e w sc m σ = (w m σ).bind fun v => (truthA v.2 v.1).map fun b => (b, v.2))
    (h3 : ∀ w sc m σ, evSrc c Φ e w sc m σ = (w m σ).map fun v => (.val v.1, v.2)) (hp : Parts T c Φ k e) : MOk T c Φ k e := ⟨he, tr_value he h1 h2, src_val he h3, hp⟩
theorem ev_no (h : ∀ sc m σ, ev c Φ e sc m σ = none) : EvOk T c Φ k e := fun A env sc m x σ P Q C q => by
  have q : Sat (ev c Φ e sc m σ) P := q
  rw [h] at q; exact q.elim
theorem trc_of {ops : List CmpOp} {es : List Expr} (h : ∀ e ∈ es, MOk T c Φ k e) (hl : ops.length = es.length) : TrcOk T c Φ k ops es := by
  induction ops generalizing es with
  | nil =>
    cases es with
    | nil => exact fun A env sc m x σ P Q a v p C R h => False.elim h
    | cons => exact Nat.noConfusion hl
  | cons op ops ih =>
    cases es with
    | nil => exact Nat.noConfusion hl
    | cons e es =>
      cases ops with
      | nil =>
        cases es with
        | nil => exact trc_one (h _ (.head _)).ev
        | cons => exact absurd (Nat.succ.inj hl) (Nat.succ_ne_zero _).symm
      | cons op' ops =>
        cases es with
        | nil => exact absurd (Nat.succ.inj hl) (Nat.succ_ne_zero _)
        | cons e' es => exact trc_cons (h _ (.head _)).ev (ih (fun y hy => h y (.tail _ hy)) (Nat.succ.inj hl))
theorem lok_nil : LOk T c Φ k [] := ⟨evs_nil, fun op p A env sc m x σ P Q C h => h.elim, fun op => trb_nil, trs_nil, fun _ h => absurd h List.not_mem_nil⟩
theorem lok_cons {es : List Expr} (h : MOk T c Φ k e) (hs : LOk T c Φ k es) : LOk T c Φ k (e :: es) := ⟨evs_cons h.ev hs.evs, fun op => by
  cases es with
  | nil => exact evb_one h.ev
  | cons => exact evb_cons h.ev (hs.evb op), fun op => trb_cons h.tr (hs.trb op), trs_cons h.tr hs.trs, fun y hy => (List.mem_cons.mp hy).elim (fun q => q ▸ h) (hs.all y)⟩
theorem cmp_any {l : Expr} {ops : List CmpOp} {rs : List Expr} {p : Pos} (hl : EvOk T c Φ k l) (hs : ∀ e ∈ rs, MOk T c Φ k e) : EvOk T c Φ k (.Compare l ops rs p) := by
  rcases ops with _ | ⟨op, _ | ⟨op', ops⟩⟩
  · exact ev_no fun _ _ _ => rfl
  · rcases rs with _ | ⟨r, _ | ⟨r', rs⟩⟩
    · exact ev_no fun _ _ _ => rfl
    · exact cmp_node hl (hs _ (.head _)).ev
    · exact ev_no fun _ _ _ => rfl
  · exact ev_no fun _ _ _ => rfl
theorem sub_any {e i : Expr} {p : Pos} (he : MOk T c Φ k e) (hi : MOk T c Φ k i) : MOk T c Φ k (.Subscript e i p) := by
  refine mk_val ?_ (fun _ _ => rfl) (fun _ _ _ _ => rfl) (fun _ _ _ _ => rfl) trivial
  cases i with
  | Slice lo hi' st sp =>
    obtain ⟨h1, h2, h3⟩ := hi.parts
    cases st with
    | none => exact slice_node he.ev h1.evo h2.evo
    | some st => exact fun A env sc m x σ P Q C h kt => (Sat.bindI h).mk'.elim fun v h => h.2.elim
  | _ => exact index_node he.ev hi.ev fun _ _ _ => rfl
theorem call_any (O : TopOk T c) (hΦ : FnsOk T Φ k) {f : Expr} {es : List Expr} {ks : List Keyword} {p : Pos} (hf : MOk T c Φ k f) (hs : LOk T c Φ k es) : MOk T c Φ k (.Call f es ks p) := by
  have no {e : Expr} (h : ∀ sc m σ, ev c Φ e sc m σ = none) := ev_no (T := T) (k := k) h
  cases f with
  | Attribute e n ap =>
    cases ks with
    | nil => exact mk_val (meth_node O hΦ hf.parts hs.evs) (fun _ _ => rfl) (fun _ _ _ _ => rfl) (fun _ _ _ _ => rfl) trivial
    | cons => exact mk_val (no fun _ _ _ => rfl) (fun _ _ => rfl) (fun _ _ _ _ => rfl) (fun _ _ _ _ => rfl) trivial
  | Name f fp =>
    rcases es with _ | ⟨x, _ | ⟨y, es⟩⟩
    · cases ks with
      | nil => exact mk_val (call_node O hΦ hs.evs fun _ _ _ => rfl) (fun _ _ => rfl) (fun _ _ _ _ => rfl) (fun _ _ _ _ => rfl) trivial
      | cons => exact mk_val (no fun _ _ _ => rfl) (fun _ _ => rfl) (fun _ _ _ _ => rfl) (fun _ _ _ _ => rfl) trivial
    · cases ks with
      | nil => exact mk_val (call_node O hΦ hs.evs fun _ _ _ => rfl) (fun _ _ => rfl) (fun _ _ _ _ => rfl) (fun _ _ _ _ => rfl) trivial
      | cons => exact mk_val (no fun _ _ _ => rfl) (fun _ _ => rfl) (fun _ _ _ _ => rfl) (fun _ _ _ _ => rfl) trivial
    · cases ks with
      | nil =>
        have h := call_node (f := f) (fp := fp) (p := p) O hΦ hs.evs fun _ _ _ => rfl
        cases es with
        | nil => exact ⟨h, tr_value h (fun _ _ => rfl) fun _ _ _ _ => rfl, src_call O hΦ (hs.all _ (.head _)).ev (hs.all _ (.tail _ (.head _))).ev, trivial⟩
        | cons => exact mk_val h (fun _ _ => rfl) (fun _ _ _ _ => rfl) (fun _ _ _ _ => rfl) trivial
      | cons => exact mk_val (no fun _ _ _ => rfl) (fun _ _ => rfl) (fun _ _ _ _ => rfl) (fun _ _ _ _ => by cases es <;> rfl) trivial
  | _ => exact mk_val (no fun _ _ _ => rfl) (fun _ _ => rfl) (fun _ _ _ _ => rfl) (fun _ _ _ _ => rfl) trivial
theorem all_ok (O : TopOk T c) (hΦ : FnsOk T Φ k) (e : Expr) : MOk T c Φ k e := by
  refine @Expr.rec (MOk T c Φ k) (fun _ => True) (COk T c Φ k) (fun _ => True) (fun _ => True) (fun _ => True) (fun _ => True) (fun _ => True) (fun _ => True) (fun _ => True) (fun _ => True) (LOk T c Φ k) (fun _ => True) (fun gs => ∀ g ∈ gs, COk T c Φ k g) (OOk T c Φ k) (fun _ => True) (fun _ => True) (fun _ => True) (fun _ => True) (fun _ => True) (fun _ => True) (fun _ => True) (fun _ => True) (fun _ => True) (fun _ => True) ?_ ?_ ?_ ?_ ?_ ?_ ?_ ?_ ?_ ?_ ?_ ?_ ?_ ?_ ?_ ?_ ?_ ?_ ?_ ?_ ?_ ?_ ?_ ?_ ?_ ?_ ?_ ?_ ?_ ?_ ?_ ?_ ?_ ?_ ?_ ?_ ?_ ?_ ?_ ?_ ?_ ?_ ?_ ?_ ?_ ?_ ?_ ?_ ?_ ?_ ?_ ?_ ?_ ?_ ?_ ?_ ?_ ?_ ?_ ?_ ?_ ?_ ?_ ?_ ?_ ?_ ?_ ?_ ?_ ?_ ?_ ?_ ?_ ?_ ?_ ?_ ?_ ?_ ?_ ?_ ?_ ?_ ?_ ?_ ?_ ?_ ?_ ?_ ?_ ?_ ?_ ?_ ?_ ?_ ?_ ?_ ?_ ?_ ?_ ?_ ?_ e
  all_goals first | (intros; exact True.intro) | skip
  · intro op es p h
    exact ⟨bool_node (h.evb op), tr_bool (h.trb op), src_val (bool_node (h.evb op)) fun _ _ _ _ => rfl, trivial⟩
  · intro _ _ _ _ _
    exact mk_val (ev_no fun _ _ _ => rfl) (fun _ _ => rfl) (fun _ _ _ _ => rfl) (fun _ _ _ _ => rfl) trivial
  · intro l op r p hl hr
    exact mk_val (bin_node hl.ev hr.ev) (fun _ _ => rfl) (fun _ _ _ _ => rfl) (fun _ _ _ _ => rfl) (trivial)
  · intro op e p h
    cases op with
    | USub => exact mk_val (usub_node h.ev) (fun _ _ => rfl) (fun _ _ _ _ => rfl) (fun _ _ _ _ => rfl) (trivial)
    | Not => exact ⟨ev_no fun _ _ _ => rfl, tr_not h.tr, src_val (ev_no fun _ _ _ => rfl) fun _ _ _ _ => rfl, trivial⟩
    | _ => exact mk_val (ev_no fun _ _ _ => rfl) (fun _ _ => rfl) (fun _ _ _ _ => rfl) (fun _ _ _ _ => rfl) trivial
  · intro _ _ _ _ _ _
    exact mk_val (ev_no fun _ _ _ => rfl) (fun _ _ => rfl) (fun _ _ _ _ => rfl) (fun _ _ _ _ => rfl) trivial
  · intro t a b p ht ha hb
    exact ⟨ifexp_node ht.tr ha.ev hb.ev, fun A env sc m x σ P Q C h => False.elim h, src_val (ifexp_node ht.tr ha.ev hb.ev) fun _ _ _ _ => rfl, trivial⟩
  · intro ks vs p _ _
    exact mk_val (ev_no fun _ _ _ => rfl) (fun _ _ => rfl) (fun _ _ _ _ => rfl) (fun _ _ _ _ => rfl) trivial
  · intro _ _ _ _
    exact mk_val (ev_no fun _ _ _ => rfl) (fun _ _ => rfl) (fun _ _ _ _ => rfl) (fun _ _ _ _ => rfl) trivial
  · intro elt gs sc p h hg
    cases gs with
    | nil => exact mk_val (ev_no fun _ _ _ => rfl) (fun _ _ => rfl) (fun _ _ _ _ => rfl) (fun _ _ _ _ => rfl) (fun A env sc m x σ P us Q C h => False.elim h)
    | cons g gs =>
      obtain ⟨t, iter, ifs, a⟩ := g
      exact mk_val (listcomp_node h.ev (hg _ (.head _)).src (hg _ (.head _)).trs fun g q => ⟨(hg g (.tail _ q)).ev, (hg g (.tail _ q)).trs⟩) (fun _ _ => rfl) (fun _ _ _ _ => rfl) (fun _ _ _ _ => rfl) (use_list h.ev (hg _ (.head _)).src (hg _ (.head _)).trs fun g q => ⟨(hg g (.tail _ q)).ev, (hg g (.tail _ q)).trs⟩)
  · intro elt gs sc p h hg
    exact mk_val (ev_no fun _ _ _ => rfl) (fun _ _ => rfl) (fun _ _ _ _ => rfl) (fun _ _ _ _ => rfl) trivial
  · intro kx vx gs sc p h h' hg
    cases gs with
    | nil => exact mk_val (ev_no fun _ _ _ => rfl) (fun _ _ => rfl) (fun _ _ _ _ => rfl) (fun _ _ _ _ => rfl) (fun A env sc m x σ P us Q C h => False.elim h)
    | cons g gs =>
      obtain ⟨t, iter, ifs, a⟩ := g
      exact mk_val (dictcomp_node O h.ev h'.ev (hg _ (.head _)).src (hg _ (.head _)).trs fun g q => ⟨(hg g (.tail _ q)).ev, (hg g (.tail _ q)).trs⟩) (fun _ _ => rfl) (fun _ _ _ _ => rfl) (fun _ _ _ _ => rfl) (use_dict O h.ev h'.ev (hg _ (.head _)).src (hg _ (.head _)).trs fun g q => ⟨(hg g (.tail _ q)).ev, (hg g (.tail _ q)).trs⟩)
  · intro _ _ _ _ _ _
    exact mk_val (ev_no fun _ _ _ => rfl) (fun _ _ => rfl) (fun _ _ _ _ => rfl) (fun _ _ _ _ => rfl) trivial
  · intro _ _ _
    exact mk_val (ev_no fun _ _ _ => rfl) (fun _ _ => rfl) (fun _ _ _ _ => rfl) (fun _ _ _ _ => rfl) trivial
  · intro _ _ _
    exact mk_val (ev_no fun _ _ _ => rfl) (fun _ _ => rfl) (fun _ _ _ _ => rfl) (fun _ _ _ _ => rfl) trivial
  · intro _ _ _
    exact mk_val (ev_no fun _ _ _ => rfl) (fun _ _ => rfl) (fun _ _ _ _ => rfl) (fun _ _ _ _ => rfl) trivial
  · intro l ops rs p hl hs
    exact ⟨cmp_any hl.ev hs.all, tr_cmp hl.ev (trc_of hs.all), src_val (cmp_any hl.ev hs.all) fun _ _ _ _ => rfl, trivial⟩
  · intro f es ks p hf hs _
    exact call_any O hΦ hf hs
  · intro _ _ _ _ _ _
    exact mk_val (ev_no fun _ _ _ => rfl) (fun _ _ => rfl) (fun _ _ _ _ => rfl) (fun _ _ _ _ => rfl) trivial
  · intro _ _ _
    exact mk_val (ev_no fun _ _ _ => rfl) (fun _ _ => rfl) (fun _ _ _ _ => rfl) (fun _ _ _ _ => rfl) trivial
  · intro a j p
    exact mk_val (const_ok) (fun _ _ => rfl) (fun _ _ _ _ => rfl) (fun _ _ _ _ => rfl) (trivial)
  · intro e n p h
    exact mk_val (attr_node O h.ev) (fun _ _ => rfl) (fun _ _ _ _ => rfl) (fun _ _ _ _ => rfl) h.ev
  · intro e i p he hi
    exact sub_any he hi
  · intro _ _ _
    exact mk_val (ev_no fun _ _ _ => rfl) (fun _ _ => rfl) (fun _ _ _ _ => rfl) (fun _ _ _ _ => rfl) trivial
  · intro n p
    exact mk_val (name_ok O) (fun _ _ => rfl) (fun _ _ _ _ => rfl) (fun _ _ _ _ => rfl) (trivial)
  · intro es p h
    exact mk_val (list_node h.evs) (fun _ _ => rfl) (fun _ _ _ _ => rfl) (fun _ _ _ _ => rfl) (trivial)
  · intro es j p h
    exact mk_val (tuple_node h.evs) (fun _ _ => rfl) (fun _ _ _ _ => rfl) (fun _ _ _ _ => rfl) (trivial)
  · intro lo hi st p h1 h2 h3
    exact mk_val (ev_no fun _ _ _ => rfl) (fun _ _ => rfl) (fun _ _ _ _ => rfl) (fun _ _ _ _ => rfl) (⟨h1, h2, h3⟩)
  · intro t e ifs a _ h hs
    exact ⟨h.src, h.ev, hs.trs⟩
  · exact lok_nil
  · intro e es h hs
    exact lok_cons h hs
  · intro g h
    exact absurd h List.not_mem_nil
  · intro g gs hg hs g' h
    exact (List.mem_cons.mp h).elim (fun q => q ▸ hg) (hs g')
  · exact ⟨evo_none, fun _ h => none_some (o := none) rfl h⟩
  · intro e h
    exact ⟨evo_some h.ev, fun _ q => by cases q; exact h.ev⟩
end
end Mine
namespace Mine
open PySem

section
variable {T : Tp} {c : Cfg} {Φ : Fns} {k : Nat}
theorem MOk.use {e : Expr} (h : MOk T c Φ k e) (q : isComp e = true) : UseOk T c Φ k e := by
  cases e with
  | ListComp => exact h.parts
  | DictComp => exact h.parts
  | SetComp => exact fun A env sc m x σ P us Q C h => h.elim
  | _ => exact Bool.noConfusion q
theorem ex_no {st : Stmt} (h : ∀ sc m σ, ex c Φ st sc m σ = none) : ExOk T c Φ k st := fun A env sc m x σ P Q C q => by
  have q : Sat (ex c Φ st sc m σ) P := q
  rw [h] at q; exact q.elim
theorem ex_all (O : TopOk T c) (hΦ : FnsOk T Φ k) (st : Stmt) : ExOk T c Φ k st := by
  have M := all_ok O hΦ
  refine @Stmt.rec (fun _ => True) (ExOk T c Φ k) (fun _ => True) (fun _ => True) (fun _ => True) (fun _ => True) (fun _ => True) (fun _ => True) (fun _ => True) (fun _ => True) (fun _ => True) (fun _ => True) (fun _ => True) (fun _ => True) (fun _ => True) (fun _ => True) (ExsOk T c Φ k) (fun _ => True) (fun _ => True) (fun _ => True) (fun _ => True) (fun _ => True) (fun _ => True) (fun _ => True) (fun _ => True) ?_ ?_ ?_ ?_ ?_ ?_ ?_ ?_ ?_ ?_ ?_ ?_ ?_ ?_ ?_ ?_ ?_ ?_ ?_ ?_ ?_ ?_ ?_ ?_ ?_ ?_ ?_ ?_ ?_ ?_ ?_ ?_ ?_ ?_ ?_ ?_ ?_ ?_ ?_ ?_ ?_ ?_ ?_ ?_ ?_ ?_ ?_ ?_ ?_ ?_ ?_ ?_ ?_ ?_ ?_ ?_ ?_ ?_ ?_ ?_ ?_ ?_ ?_ ?_ ?_ ?_ ?_ ?_ ?_ ?_ ?_ ?_ ?_ ?_ ?_ ?_ ?_ ?_ ?_ ?_ ?_ ?_ ?_ ?_ ?_ ?_ ?_ ?_ ?_ ?_ ?_ ?_ ?_ ?_ ?_ ?_ ?_ ?_ ?_ ?_ ?_ st
  all_goals first | (intros; exact True.intro) | (intros; exact ex_no fun _ _ _ => rfl) | skip
  · intro e p _
    cases e with
    | none => exact ex_no fun _ _ _ => rfl
    | some e => exact return_ok (M e).ev
  · intro ts e p _ _
    rcases ts with _ | ⟨t, _ | ⟨b, ts⟩⟩
    · exact ex_no fun _ _ _ => rfl
    · exact asg_ok (M e).ev (M e).use fun _ _ _ => rfl
    · exact ex_no fun _ _ _ => rfl
  · intro t op e p _ _
    cases t with
    | Name y yp => exact augname_ok O (M e).ev
    | _ => exact ex_no fun _ _ _ => rfl
  · intro t e b o p _ _ hb _
    cases o with
    | nil => exact for_ok (M e).ev hb
    | cons x o => exact ex_no fun _ _ _ => rfl
  · intro t b o p _ hb _
    cases o with
    | nil => exact while_ok (M t).tr hb
    | cons x o => exact ex_no fun _ _ _ => rfl
  · intro t a b p _ ha hb
    exact if_ok (M t).tr ha hb
  · intro e p _
    exact expr_ok (M e).ev
  · exact fun _ => break_ok
  · exact fun _ => continue_ok
  · exact exs_nil
  · intro s ss h hs
    exact exs_cons h hs
theorem exs_all (O : TopOk T c) (hΦ : FnsOk T Φ k) (ss : List Stmt) : ExsOk T c Φ k ss := by
  induction ss with
  | nil => exact exs_nil
  | cons s ss ih => exact exs_cons (ex_all O hΦ s) ih
end
end Mine
namespace Mine
open PySem

noncomputable def stDef : Stmt → Option (Str × Def)
  | .FunctionDef n a b _ _ _ sc _ _ _ => some (n, ⟨a.args.map (·.arg), b, sc⟩)
  | _ => none
noncomputable def defsOf (p : Program) (f : Str) : Option Def := (p.main.body.filterMap stDef).lookup f

noncomputable def biTab : List (Str × AV) := [("len", .bi .len), ("range", .bi .range), ("list", .bi .list), ("str", .bi .str), ("int", .bi .int), ("sum", .bi .sum), ("divmod", .bi .divmod), ("sorted", .bi .sorted), ("zip", .bi .zip), ("iter", .bi .iter)]

noncomputable def stGlob : Stmt → Option (Str × AV)
  | .Assign [.Name n _] (.Constant (.int i) _ _) _ => some (n, .int i)
  | .FunctionDef n .. => some (n, .glob n)
  | .ClassDef n .. => some (n, .glob n)
  | _ => none
noncomputable def globL (p : Program) : List (Str × AV) := p.main.body.filterMap stGlob ++ biTab

noncomputable def dictOf' (p : Program) : List (Option Expr) → List Expr → Option (List Str × List AV)
  | [], [] => some ([], [])
  | some (.Constant (.str s) _ _) :: ks, .Name n _ :: vs => ((globL p).lookup n).bind fun v => (dictOf' p ks vs).bind fun r => some (s :: r.1, v :: r.2)
  | _, _ => none
noncomputable def stExact (p : Program) : Stmt → Option AV
  | .Assign [.Name _ _] (.Dict ks vs _) _ => (dictOf' p ks vs).map fun r => .dict (.ks r.1) r.2
  | _ => none
noncomputable def globOf (p : Program) (x : Str) : Option AV := if x = "EXACT_TOKEN_TYPES" then p.main.body.findSome? (stExact p) else (globL p).lookup x

noncomputable def mu2 : List (Nat × Nat) := [(118, 22), (120, 80), (128, 20), (149, 12), (154, 10), (168, 12), (173, 12), (178, 34)]
noncomputable def fz2 (p : Pos) : List Str :=
  if p.line = 141 then ["answers"] else if p.line = 158 then ["due"] else if p.line = 172 then ["rules"] else if p.line = 177 then ["texts"] else []

noncomputable def sk2 (p : Pos) : Bool := p.line == 165
noncomputable def cfg (sets : Bool) (sk : Pos → Bool) (p : Program) (mu : List (Nat × Nat)) (fz : Pos → List Str) : Cfg := { glob := globOf p, mu := fun q => mu.contains (q.line, q.col), fz, sk, fuel := 100000, sets }

noncomputable def runLaw (sets : Bool) (sk : Pos → Bool) (p : Program) (mu : List (Nat × Nat)) (fz : Pos → List Str) (script : List Int) : Option AV :=
  (fns (cfg sets sk p mu fz) (defsOf p) 10 "law" [.list (script.map .int)] ⟨fun l => if l = 0 then some (.tab true) else none, 1⟩).map (·.1)
end Mine
namespace Mine
open PySem PyProof.Rows

structure DefOk (T : Tp) (f : Str) (d : Def) : Prop where
  fn : ∃ a o pm cd doc params, T.fnV f = some (.ref a) ∧ T.h₀.get? a = some o ∧ o.data = .func (Calls.docDef f params d.body d.scope pm cd doc) ∧ T.h₀.CodeRec cd f ∧
    ∀ vs : List Value, vs.length = d.params.length → bindArgs (Calls.docDef f params d.body d.scope pm cd doc) ⟨vs, []⟩ = pure (d.params.zip vs)
  co : d.scope.isCoroutine = false
  gen : d.scope.isGenerator = false
  sc : okScope d.scope = true
  nofree : ∀ x ∈ d.scope.names, x.2 ≠ .free
  par : ∀ x ∈ d.params, mayBind d.scope x
  nodup : d.params.Nodup

theorem CodeRec.keeps' {h h' : Heap} {cd : Value} {q : Str} (x : h.CodeRec cd q) (hk : ∀ b o, h.get? b = some o → h'.get? b = some o) : h'.CodeRec cd q :=
  x.elim fun c x => x.elim fun o x => x.elim fun vs x => x.elim fun t x => ⟨c, o, vs, t, x.1, hk _ _ x.2.1, x.2.2⟩

/-- how a call comes back -/
noncomputable def CallR (Q : Value → Shared → Prop) : Result → Shared → Prop := fun r s' => match r with
  | .ok (.ret v) => Q v s'
  | .ok _ => False
  | .error _ => False
theorem call_code {f : Value} {vs : List Value} {Q : Value → Shared → Prop} {prog : Program} {w : World} {A : Around} {s : Shared} (h : codeAny (model prog w) A (.call f ⟨vs, []⟩) (CallR Q) s) : wpAny (model prog w) A (call f vs) Q NoE s :=
  wpAny_call (codeAny_mono h fun r s' q => by
    cases r with
    | error e => exact q
    | ok fl => cases fl <;> exact q)

theorem lookup_cons_if {x p : Str} {v : Value} {l : List (Str × Value)} : ((p, v) :: l).lookup x = if x = p then some v else l.lookup x := by
  by_cases h : x = p
  · rw [if_pos h, List.lookup_cons, beq_iff_eq.mpr h]
  · rw [if_neg h, List.lookup_cons, beq_false_of_ne h]
theorem zip_no {ps : List Str} {vs : List Value} {x : Str} (h : x ∉ ps) : (ps.zip vs).lookup x = none := by
  cases e : (ps.zip vs).lookup x with
  | none => rfl
  | some u => exact absurd (List.of_mem_zip (mem_of_lookup e)).1 h
/-- what a call binds, name by name -/
theorem binds_at {g : List (Str × Value) → (Str → Option Value) → Str → Option Value} {kd : Str → Prop} (g0 : ∀ m, g [] m = m) (gs : ∀ p v l m, ∃ m', g ((p, v) :: l) m = g l m' ∧ ∀ x, kd x → m' x = if x = p then some v else m x)
    {ps : List Str} {vs : List Value} {m : Str → Option Value} {x : Str} (hn : ps.Nodup) (hl : ps.length = vs.length) (hx : kd x) : g (ps.zip vs) m x = ((ps.zip vs).lookup x).or (m x) := by
  induction ps generalizing vs m with
  | nil => rw [List.zip_nil_left, g0]; rfl
  | cons p ps ih =>
    cases vs with
    | nil => exact Nat.noConfusion hl
    | cons v vs =>
      have hn' := List.nodup_cons.mp hn
      obtain ⟨m', e1, e2⟩ := gs p v (ps.zip vs) m
      rw [List.zip_cons_cons, e1, ih hn'.2 (Nat.succ.inj hl), e2 x hx, lookup_cons_if]
      by_cases h : x = p
      · rw [if_pos h, if_pos h, h, zip_no hn'.1]; rfl
      · rw [if_neg h, if_neg h]
theorem bindL_at {kd : Str → Option NameKind} {ps : List Str} {vs : List Value} {m : Str → Option Value} {x : Str} (hn : ps.Nodup) (hl : ps.length = vs.length) (hx : kd x = some .local) : bindL kd (ps.zip vs) m x = ((ps.zip vs).lookup x).or (m x) :=
  binds_at (g := bindL kd) (kd := fun x => kd x = some .local) (fun _ => rfl) (fun p v l m => ⟨_, rfl, fun x h => by
    by_cases e : x = p
    · rw [if_pos e, ← e, if_pos h, if_pos rfl]
    · rw [if_neg e]
      by_cases q : kd p = some .local
      · rw [if_pos q, if_neg e]
      · rw [if_neg q]⟩) hn hl hx
theorem bindC_at {kd : Str → Option NameKind} {ps : List Str} {vs : List Value} {m : Str → Option Value} {x : Str} (hn : ps.Nodup) (hl : ps.length = vs.length) (hx : kd x ≠ some .local) : bindC kd (ps.zip vs) m x = ((ps.zip vs).lookup x).or (m x) :=
  binds_at (g := bindC kd) (kd := fun x => kd x ≠ some .local) (fun _ => rfl) (fun p v l m => ⟨_, rfl, fun x h => by
    by_cases e : x = p
    · rw [if_pos e, ← e, if_neg h, if_pos rfl]
    · rw [if_neg e]
      by_cases q : kd p = some .local
      · rw [if_pos q]
      · rw [if_neg q, if_neg e]⟩) hn hl hx

/-- the colours when a frame is made -/
noncomputable def frC (x : St) (b : Addr) : Col := if (x.h.get? b).isSome then x.κ b else .fr x.h.objs.size

section
variable {T : Tp} {c : Cfg} {Φ : Fns} {k : Nat} {A : Around} {x y : St} {σ : Sto} {args : List AV} {u : Value} {vs : List Value} {P : AV × Sto → Prop} {Q : Value → Shared → Prop} {tk : Nat}

theorem frC_old {b : Addr} {o : Obj} (e : x.h.get? b = some o) : frC x b = x.κ b := if_pos (by rw [e]; rfl)
theorem get?_ge {h : Heap} {b : Addr} (hb : h.objs.size ≤ b) : h.get? b = none := by
  cases e : h.get? b with
  | none => rfl
  | some o => exact absurd (Heap.lt_size e) (Nat.not_lt.mpr hb)
theorem frC_new {b : Addr} (hb : x.h.objs.size ≤ b) : frC x b = .fr x.h.objs.size := if_neg (by rw [get?_ge hb]; exact Bool.false_ne_true)
theorem Ext.frame {h' : Heap} (hk : ∀ a o, x.h.get? a = some o → h'.get? a = some o) : Ext x (x.re h' tk (frC x)) := .old hk fun _ _ => frC_old

theorem zip_lookup_rep {ps : List Str} {as : List AV} {n : Str} {v : AV} (r : RepL T x as vs) (e : (ps.zip as).lookup n = some v) : ∃ u, (ps.zip vs).lookup n = some u ∧ Rep T x v u := by
  induction ps generalizing as vs with
  | nil => cases e
  | cons p ps ih =>
    cases as with
    | nil => cases e
    | cons a as =>
      obtain ⟨u, us, rfl, r1, r2⟩ := r
      rw [List.zip_cons_cons, List.lookup_cons] at e ⊢
      cases h : n == p with
      | true => rw [h] at e; injection e with e; exact ⟨u, rfl, e ▸ r1⟩
      | false => rw [h] at e; exact ih r2 e
theorem AOk.deeper (hA : AOk A (k + 1)) (env : Env) : AOk (A.deeper env) k := by
  obtain ⟨h1, h2, h3⟩ := hA
  refine ⟨h1, ?_, ?_⟩
  · rw [depth_deeper]; first | lia | omega
  · rw [units_deeper]; first | lia | omega
theorem AOk.room (hA : AOk A k) : A.depth < recursionLimit := by have := hA.depth; first | lia | omega

theorem Inv.upto (I : Inv T x σ) {n : Nat} : Inv T x (σ.upto n) :=
  have h {l : Nat} {o : AObj} (e : (σ.upto n).get l = some o) : σ.get l = some o := by
    by_cases q : l < n
    · exact (if_pos q).symm.trans e
    · exact none_some (if_neg q) e
  ⟨I.base, fun l o e => I.lt l o (h e), fun l o e => I.objs l o (h e), I.nx⟩

/-- a def of the text is called -/
theorem def_code (O : TopOk T c) (hΦ : FnsOk T Φ k) {f : Str} {d : Def} (hd : DefOk T f d) (h : Sat (d.call c Φ args σ) P) (hA : AOk A (k + 1)) (I : Inv T x σ) (hu : T.fnV f = some u) (r : RepL T x args vs) (kt : Kv T x P Q) :
    codeAny (model T.prog T.w) A (.call u ⟨vs, []⟩) (CallR Q) x.s := by
  obtain ⟨a, o, pm, cd, doc, params, hf, ho, hdat, hcd, hbind⟩ := hd.fn
  cases hf.symm.trans hu
  have hkeep0 : ∀ b o, T.h₀.get? b = some o → x.h.get? b = some o := fun b o e => (I.base b o e).1
  obtain ⟨hlen, h⟩ := Sat.iteI h
  have hvl : d.params.length = vs.length := hlen.trans r.length.symm
  have hkind : d.scope.kind = .function := beq_iff_eq.mp (Bool.and_eq_true_iff.mp hd.sc).1
  have hcellfrom : ∀ x N, d.scope.names.lookup x = some .cell → ∃ b, (cellsFrom N d.scope.names []).lookup x = some b := fun x N hx => cellsFrom_has (mem_of_lookup hx)
  refine call_cells_ret hA.room (hkeep0 _ _ ho) hdat (O.nolimit.keeps hkeep0) (CodeRec.keeps' hcd hkeep0) (hbind vs hvl.symm) (fun x hx => ?_) (fun h₁ tk F X => ?_) hd.co hd.gen hkind
  · exact (hd.par _ (List.of_mem_zip (a := x.1) (b := x.2) hx).1).imp id fun q => ⟨q, Option.isSome_iff_exists.mpr (hcellfrom _ _ q)⟩
  have M : Ext x (x.re h₁ tk (frC x)) := .frame F.keep
  have hnofree : ∀ n, d.scope.names.lookup n ≠ some .free := fun n hx => hd.nofree _ (mem_of_lookup hx) rfl
  have hcel {n : Str} {b : Addr} (hb : (cellsFrom (x.h.objs.size + 1) d.scope.names []).lookup n = some b) {w : Option Value} (e : bindC (fun x => d.scope.names.lookup x) (d.params.zip vs) (fun _ => none) n = w) :
      CelAt (envOfC f d.scope x.h.objs.size a cd) (x.re h₁ tk (frC x)) n b w x.h.objs.size := ⟨hb, e ▸ X.cell n b hb, frC_new (Nat.le_of_lt (X.above n b (mem_of_lookup hb)))⟩
  have hF : FrOk T (envOfC f d.scope x.h.objs.size a cd) d.scope (fun x => (d.params.zip args).lookup x) (x.re h₁ tk (frC x)) := by
    refine ⟨hkind, rfl, rfl, fun _ => rfl, frC_new (Nat.le_refl _), ⟨_, F.ns, fun n v ex hx => ?_⟩, fun n v ex hx => ?_, fun n hx => ?_, fun n k b hx hy => name_of_addr X.apart (mem_of_lookup hx) (mem_of_lookup hy), fun _ hx => hx, fun n hx => absurd hx (hnofree n)⟩
    · obtain ⟨u, h1, h2⟩ := zip_lookup_rep r ex
      refine ⟨u, ?_, M.rep h2⟩
      have e := bindL_at (kd := fun x => d.scope.names.lookup x) (m := fun _ => none) hd.nodup hvl hx
      rw [h1] at e
      exact e
    · rcases kcls2 hx with hx | hx
      · obtain ⟨u, h1, h2⟩ := zip_lookup_rep r ex
        obtain ⟨b, hb⟩ := hcellfrom n (x.h.objs.size + 1) hx
        have e := bindC_at (kd := fun x => d.scope.names.lookup x) (m := fun _ => none) (x := n) hd.nodup hvl (by rw [hx]; exact fun e => by cases e)
        rw [h1] at e
        exact ⟨b, u, _, hcel hb e, M.rep h2⟩
      · exact absurd hx (hnofree n)
    · obtain ⟨b, hb⟩ := hcellfrom n (x.h.objs.size + 1) hx
      exact ⟨b, _, hcel hb rfl⟩
  have hown : ∀ b, Owns (envOfC f d.scope x.h.objs.size a cd) d.scope b → x.h.get? b = none := by
    rintro b (rfl | ⟨n, q1, q2⟩)
    · exact get?_ge (Nat.le_refl _)
    · exact get?_ge (Nat.le_of_lt (X.above n b (mem_of_lookup q2)))
  refine SOk.at (exs_all O hΦ d.body) ⟨hA.deeper _, M.inv I rfl, hF⟩ h.bindI fun r fl z h e => ?_
  have S : Step Pe x z := (M.step.ts e.b.S).pe hown
  obtain ⟨fl', m', σ'⟩ := r
  cases fl' with
  | next => have e' : fl = .next := e.f; subst e'; exact kt _ .none z h ⟨S, e.b.I.upto, rfl⟩
  | ret v => obtain ⟨u, e', ru⟩ := e.f; subst e'; exact kt _ u z h ⟨S, e.b.I.upto, ru⟩
  | _ => exact h.elim
/-- a def of the text is called -/
theorem def_ok (O : TopOk T c) (hΦ : FnsOk T Φ k) {f : Str} {d : Def} (hd : DefOk T f d) (h : Sat (d.call c Φ args σ) P) (hA : AOk A (k + 1)) (I : Inv T x σ) (hu : T.fnV f = some u) (r : RepL T x args vs) (kt : Kv T x P Q) : Wp T A (call u vs) Q x :=
  call_code (def_code O hΦ hd h hA I hu r kt)
end
end Mine
namespace Mine
open PySem PyProof.Rows

theorem AOk.less {A : Around} {k j : Nat} (h : AOk A k) (hj : j ≤ k) : AOk A j := ⟨h.handled, by have := h.depth; first | lia | omega, by have := h.units; first | lia | omega⟩

/-- a def stands at an address -/
structure FdAt (h : Heap) (a : Addr) (fd : FuncData) (body : List Stmt) (ps : List Str) : Prop where
  obj : ∃ o, h.get? a = some o ∧ o.cls = .type "function" ∧ o.data = .func fd
  code : h.CodeRec fd.code fd.qualname
  body : fd.body = .stmts body
  glo : fd.globals = mainGlobals
  bui : fd.builtins = builtinsNs
  co : fd.scope.isCoroutine = false
  gen : fd.scope.isGenerator = false
  kind : fd.scope.kind = .function
  binds : ∀ vs : List Value, vs.length = ps.length → bindArgs fd ⟨vs, []⟩ = pure (ps.zip vs)
  loc : ∀ x ∈ ps, fd.scope.names.lookup x = some .local
  nocell : ∀ x ∈ fd.scope.names, x.2 ≠ .cell
  nodup : ps.Nodup

theorem FdAt.keeps {h h' : Heap} {a : Addr} {fd : FuncData} {body : List Stmt} {ps : List Str} (D : FdAt h a fd body ps) (hk : ∀ b o, h.get? b = some o → h'.get? b = some o) : FdAt h' a fd body ps :=
  { D with obj := D.obj.elim fun o e => ⟨o, hk _ _ e.1, e.2⟩, code := CodeRec.keeps' D.code hk }
theorem rev_lookup {ps : List Str} {vs : List Value} {x : Str} (hn : ps.Nodup) (hl : ps.length = vs.length) : (ps.zip vs).reverse.lookup x = (ps.zip vs).lookup x := by
  induction ps generalizing vs with
  | nil => rfl
  | cons p ps ih =>
    cases vs with
    | nil => rfl
    | cons v vs =>
      have hn' := List.nodup_cons.mp hn
      rw [List.zip_cons_cons, List.reverse_cons, List.lookup_append, ih hn'.2 (Nat.succ.inj hl), lookup_cons_if, lookup_cons_if]
      by_cases h : x = p
      · rw [if_pos h, if_pos h, h, zip_no hn'.1]; rfl
      · rw [if_neg h, if_neg h]; exact Option.or_none

/-- what a call's body gives back -/
noncomputable def fval : Flow → Value
  | .ret v => v
  | _ => .none

section
variable {T : Tp} {c : Cfg} {Φ : Fns} {k : Nat} {A : Around} {x y : St} {σ : Sto} {args : List AV} {u : Value} {vs : List Value} {P : AV × Sto → Prop} {Q : Value → Shared → Prop} {tk : Nat}

/-- a plain def's frame, its closure empty -/
theorem fd_code {a : Addr} {fd : FuncData} {body : List Stmt} {ps : List Str} (hlim : T.h₀.NoLimit) (D : FdAt T.h₀ a fd body ps) (hclo : fd.closure = []) (hfree : ∀ x ∈ fd.scope.names, x.2 ≠ .free) (hA : AOk A (k + 1)) (I : Inv T x σ)
    (hlen : ps.length = vs.length) (r : RepL T x args vs)
    (h : ∀ (env : Env) y, Cx T k (A.deeper env) env fd.scope (fun x => (ps.zip args).lookup x) y σ → Step Pe x y → (∀ b, Owns env fd.scope b → x.h.get? b = none) → Wp T (A.deeper env) (execs body env) (fun fl s' => Q (fval fl) s') y) :
    codeAny (model T.prog T.w) A (.call (.ref a) ⟨vs, []⟩) (CallR Q) x.s := by
  have hk0 : ∀ b o, T.h₀.get? b = some o → x.h.get? b = some o := fun b o e => (I.base b o e).1
  have D := D.keeps hk0
  obtain ⟨o, ho, _, hdat⟩ := D.obj
  refine codeAny_call_def hA.room ho hdat (hlim.keeps hk0) D.code D.body (.of_eq (D.binds vs hlen.symm)) D.nocell (fun x hx => D.loc _ (List.of_mem_zip (a := x.1) (b := x.2) hx).1) (fun h₁ hns hk => ?_) D.co D.gen D.kind
  have M : Ext x (x.re h₁ (x.s.toks + (ps.zip vs).length) (frC x)) := .frame hk
  have hnocell : ∀ x, fd.scope.names.lookup x ≠ some .cell := fun x hx => D.nocell _ (mem_of_lookup hx) rfl
  have hnofree : ∀ x, fd.scope.names.lookup x ≠ some .free := fun x hx => hfree _ (mem_of_lookup hx) rfl
  have hcells : (callEnv fd x.h.objs.size a).cells = [] := hclo
  refine wpAny_mono (h (callEnv fd x.h.objs.size a) _ ⟨hA.deeper _, M.inv I rfl, D.kind, D.glo, D.bui, fun x => rfl, frC_new (Nat.le_refl _), ⟨_, hns, fun n v ex hx => ?_⟩, fun n v ex hx => (kcls2 hx).elim (fun q => absurd q (hnocell n)) fun q => absurd q (hnofree n), fun n hx => absurd hx (hnocell n), fun n y b hx hy => ?_, fun n hx => absurd hx (hnocell n), fun n hx => absurd hx (hnofree n)⟩
    M.step fun b hb => ?_) (fun fl s' q => ?_) fun _ _ z => z.elim
  · obtain ⟨u, h1, h2⟩ := zip_lookup_rep r ex
    exact ⟨u, (rev_lookup D.nodup hlen).trans h1, M.rep h2⟩
  · rw [hcells] at hx; cases hx
  · exact hb.elim (fun e => e ▸ get?_ge (Nat.le_refl _)) fun q => q.elim fun n q => absurd q.1 (hnocell n)
  · cases fl <;> exact q
end

/-- the lexer's class and its methods -/
structure LexTop (T : Tp) (N : Addr) (mN : Str → Option Value) : Prop where
  cls : ClsAt T.h₀ T.C N mN
  nolimit : T.h₀.NoLimit
  no : ∀ x, x ∈ (["__getattribute__", "__getattr__", "__setattr__", "lineno", "instream", "whitespace", "pushback"] : List Str) → mN x = none
  meth : ∀ x, x ∈ (["get_token", "push_token", "_read_char"] : List Str) → ∃ f fd o, T.fnV x = some (.ref f) ∧ mN x = some (.ref f) ∧ T.h₀.get? f = some o ∧ o.cls = .type "function" ∧ o.data = .func fd

theorem lkT {t : String} {n : Str} {r : Option Value} (h : fastLookup t n = some r) : typeLookup (.type t) n = pure r := by rw [typeLookup_type, builtinLookup_eq_fast, h]
theorem no_obj : ∀ x ∈ (["lineno", "instream", "whitespace", "pushback", "get_token", "push_token", "_read_char"] : List Str), typeLookup (.type "object") x = pure none :=
  have c {p : Str → Prop} {a : Str} {l : List Str} (h : p a) (hs : ∀ x ∈ l, p x) : ∀ x ∈ a :: l, p x := List.forall_mem_cons.mpr ⟨h, hs⟩
  c (lkT (by kernel_rfl)) (c (lkT (by kernel_rfl)) (c (lkT (by kernel_rfl)) (c (lkT (by kernel_rfl)) (c (lkT (by kernel_rfl)) (c (lkT (by kernel_rfl)) (c (lkT (by kernel_rfl)) fun _ h => absurd h List.not_mem_nil))))))

section
variable {T : Tp} {c : Cfg} {A : Around} {x y : St} {σ : Sto} {u v : Value} {Q : Value → Shared → Prop} {N : Addr} {mN mA : Str → Option Value} {l lf : Nat} {ln : Int} {push : List AV} {n : Str}
/-- the lexer behind a location -/
theorem lex_inst {C : Prop} (I : Inv T x σ) (hg : σ.get l = some (.lexer ln lf push)) (k : ∀ o d pb vs ep sv t u mA, LexR T x l ln lf push o d pb vs ep sv t u mA → C) : C :=
  (I.objs _ _ hg).elim fun o r => r.elim fun d r => r.elim fun pb r => r.elim fun vs r => r.elim fun ep r => r.elim fun sv r => r.elim fun t r => r.elim fun u r => r.elim fun mA r => k o d pb vs ep sv t u mA r
theorem LexR.inst {o : Obj} {d pb : Addr} {vs : List Value} {ep : Nat} {sv : Value} {t u : Tok} (r : LexR T x l ln lf push o d pb vs ep sv t u mA) : x.h.Inst (x.γ l) T.C mA := ⟨o, r.g, r.cls, r.nc, .inr ⟨d, r.od, r.ne, r.N⟩⟩
theorem LexTop.at {C : Prop} (X : LexTop T N mN) {h : Heap} (hk : ∀ b o, T.h₀.get? b = some o → h.get? b = some o) (k : ∀ nm q bs sn sub col dd k0 k1 k2 k3 k5, h.get? T.C = some (excClassObj nm q T.C N bs [.type "object"] true sn sub false col dd k0 k1 k2 k3 k5 "object.__new__") → h.Ns N mN → C) : C :=
  have X := X.cls.keeps hk
  X.obj.elim fun nm e => e.elim fun q e => e.elim fun bs e => e.elim fun sn e => e.elim fun sub e => e.elim fun col e => e.elim fun dd e => e.elim fun k0 e => e.elim fun k1 e => e.elim fun k2 e => e.elim fun k3 e => e.elim fun k5 e => k nm q bs sn sub col dd k0 k1 k2 k3 k5 e X.ns
theorem lex_load (X : LexTop T N mN) (I : Inv T x σ) {a : Addr} (hi : x.h.Inst a T.C mA) (hn : n ∈ lexNames) (hv : mA n = some v) (hh : handedOut v = pure v) {e : Bool} (h : Q v { x.s with toks := x.s.toks + 1 }) : Wp T A (getAttr (.ref a) n e) Q x :=
  X.at (fun b o e => (I.base b o e).1) fun _ _ _ _ _ _ _ _ _ _ _ _ hC ns =>
    load_attr hC ns (X.no _ (by decide)) (X.no _ ((show ∀ n ∈ lexNames, n ∈ _ by decide) n hn)) (no_obj _ ((show ∀ n ∈ lexNames, n ∈ _ by decide) n hn)) hi hv hh h
theorem lex_meth (X : LexTop T N mN) (I : Inv T x σ) {pl : Sem Bool} {Q : Value × List Value → Shared → Prop}
    (hg : σ.get l = some (.lexer ln lf push)) (hn : n = "get_token" ∨ n = "push_token" ∨ n = "_read_char") (h : ∀ f, T.fnV n = some f → Q (f, [.ref (x.γ l)]) x.s) :
    Wp T A (getMethod (.ref (x.γ l)) n pl) Q x :=
  have hn : n ∈ (["get_token", "push_token", "_read_char"] : List Str) := hn.elim (fun e => by rw [e]; exact .head _) fun hn => hn.elim (fun e => by rw [e]; exact .tail _ (.head _)) fun e => by rw [e]; exact .tail _ (.tail _ (.head _))
  have hk : ∀ b o, T.h₀.get? b = some o → x.h.get? b = some o := fun b o e => (I.base b o e).1
  lex_inst I hg fun _ _ _ _ _ _ _ _ mA r => X.at hk fun _ _ _ _ _ _ _ _ _ _ _ _ hC ns => (X.meth n hn).elim fun f e => e.elim fun fd e => e.elim fun o e =>
    method_of hC ns (X.no _ (by decide)) (X.no _ (by decide)) e.2.1 (hk _ _ e.2.2.1) e.2.2.2.1 (no_obj _ ((show ∀ n ∈ (["get_token", "push_token", "_read_char"] : List Str), n ∈ _ by decide) n hn)) r.inst (r.m5 _ ((show ∀ n ∈ (["get_token", "push_token", "_read_char"] : List Str), n ∉ lexNames by decide) n hn)) (h _ e.1)
theorem lex_attr (X : LexTop T N mN) (I : Inv T x σ) {a : AV} (R : Rep T x a u) {Pa : AV → Prop} (h : Sat (attrA σ a n) Pa) (kt : ∀ r u tk, Pa r → Rep T x r u → Q u { x.s with toks := tk }) : Wp T A (getAttr u n true) Q x :=
  onLoc_rep (C := fun u => Wp T A (getAttr u n true) Q x) R h fun l hl h => by
    revert h
    cases hg : σ.get l with
    | none => exact fun h => h.elim
    | some o =>
      cases o with
      | lexer ln lf push =>
        refine fun h => lex_inst I hg fun _ _ _ _ _ _ _ _ _ r => ?_
        rcases Sat.iteE h with ⟨rfl, h⟩ | h
        · exact lex_load X I r.inst (by decide) r.m1 rfl (kt _ _ _ h ⟨_, rfl⟩)
        · obtain ⟨rfl, h⟩ := Sat.iteI h
          exact lex_load X I r.inst (by decide) r.m3 rfl (kt _ _ _ h ⟨_, rfl⟩)
      | _ => exact fun h => h.elim
end
end Mine
namespace Mine
open PySem PyProof.Rows
section
variable {T : Tp} {A : Around} {s : Shared}

theorem cls_cw {prog : Program} {w : World} {h₀ : Heap} {C N : Addr} {mN : Str → Option Value} {pos : Pos} {first : List Value} {args : List (Bool × Sem Value)} {Q : Value → Shared → Prop} (X : ClsAt h₀ C N mN)
    (h : wpAny (model prog w) A (evalArgs (.ref C) true args []) (fun a s₁ => (∀ b o, h₀.get? b = some o → s₁.heap.get? b = some o) ∧ wpAny (model prog w) A (call (.ref C) (first ++ a.pos) a.kw) Q NoE s₁) NoE s)
    (hp : args.any (·.1) = false) : wpAny (model prog w) A (callWith pos (.ref C) first args []) Q NoE s := by
  unfold callWith
  refine wpAny_bind (wpAny_holding (wpAny_mono h (fun a s₁ h₁ => ?_) fun _ _ x => x))
  obtain ⟨hh, g, d, t, os⟩ := s₁
  obtain ⟨nm, q, bs, sn, sub, col, dd, k0, k1, k2, k3, k5, hC⟩ := (X.keeps h₁.1).obj
  have f1 := tc_lookup
  have hT : (⟨hh, g, d, t, os⟩ : Shared).TypeIs (.ref C) "type" := ⟨_, hC, rfl⟩
  refine wpAny_bind (wpAny_standAt ?_)
  have hst : (args.any (fun x => x.fst) || ([] : List (Option Str × Sem Value)).any fun x => x.fst.isNone) = false := by rw [hp]; rfl
  show wpAny _ _ (keeperOf (.ref C) >>= _) _ _ _
  unfold keeperOf specialOf
  repeat (any_goals (first | assumption | with_reducible refine wpAny_loadPart_at hC ?_ | with_reducible refine wpAny_load' hC ?_ | wp_step))
  rw [if_pos (by rfl), hst]
  show wpAny _ _ (call (.ref C) (first ++ a.pos) a.kw >>= fun r => do holding [r] point; pure r) _ _ _
  exact wpAny_bind (wpAny_mono h₁.2 (fun r s' hr => wpAny_bind (wpAny_holding (wpAny_point (wpAny_pure hr)))) fun _ _ x => x)

/-- any callee of the text -/
theorem cw_ok {u : Value} {pos : Pos} {first : List Value} {args : List (Bool × Sem Value)} {Q : Value → Shared → Prop} {N : Addr} {mN : Str → Option Value} (X : ClsAt T.h₀ T.C N mN)
    (hu : u = .ref T.C ∨ ∃ a o fd, u = .ref a ∧ T.h₀.get? a = some o ∧ o.data = .func fd)
    (h : wpAny (model T.prog T.w) A (evalArgs u true args []) (fun a s₁ => (∃ y σ, Inv T y σ ∧ y.s = s₁) ∧ wpAny (model T.prog T.w) A (call u (first ++ a.pos) a.kw) Q NoE s₁) NoE s) (hp : args.any (·.1) = false) :
    wpAny (model T.prog T.w) A (callWith pos u first args []) Q NoE s := by
  have keep {s₁ : Shared} : (∃ y σ, Inv T y σ ∧ y.s = s₁) → ∀ b o, T.h₀.get? b = some o → s₁.heap.get? b = some o := fun ⟨y, σ, I, e⟩ b o q => e ▸ (I.base b o q).1
  rcases hu with rfl | ⟨a, o, fd, rfl, ho, hd⟩
  · exact cls_cw X (wpAny_mono h (fun a s₁ q => ⟨keep q.1, q.2⟩) fun _ _ z => z) hp
  · exact Calls.callWith_function (o := o) (fd := fd) (wpAny_mono h (fun a s₁ q => ⟨⟨keep q.1 _ _ ho, hd⟩, q.2⟩) fun _ _ z => z)
end
end Mine
namespace Mine
open PySem PyProof.Rows

/-- the methods of a text's class, by place -/
noncomputable def methAt (p : Program) (i j : Nat) : Option (Arguments × List Stmt × Scope) := match p.main.body[i]? with
  | some (.ClassDef _ _ _ body _ _ _ _ _ _ _) => match body[j]? with
    | some (.FunctionDef _ a b _ _ _ sc _ _ _) => some (a, b, sc)
    | _ => none
  | _ => none
noncomputable def defAt (p : Program) (i : Nat) : Option (Arguments × List Stmt × Scope) := match p.main.body[i]? with
  | some (.FunctionDef _ a b _ _ _ sc _ _ _) => some (a, b, sc)
  | _ => none
noncomputable def bodyOf (x : Option (Arguments × List Stmt × Scope)) : List Stmt := match x with
  | some y => y.2.1
  | none => []
noncomputable def scopeOf (x : Option (Arguments × List Stmt × Scope)) : Scope := match x with
  | some y => y.2.2
  | none => { kind := .module, names := [], isGenerator := false, isCoroutine := false }
end Mine
namespace Mine
open PySem PyProof.Rows Builtin Builtin.ObjectAttr

/-- a function with a dict of its own -/
structure FnObj (h : Heap) (a d : Addr) (mA : Str → Option Value) : Prop where
  obj : ∃ o, h.get? a = some o ∧ o.cls = .type "function" ∧ (∃ fd, o.data = .func fd) ∧ o.dict = some d
  ne : d ≠ a
  ns : h.Ns d mA

theorem fn_ga : typeLookup (.type "function") "__getattribute__" = pure (some (.builtin "object.__getattribute__")) := lkT (by kernel_rfl)
theorem slot_fga : Slot "function" "__getattribute__" "object.__getattribute__" :=
  .of (owner := "object") (n := "__getattribute__") (lkT (by kernel_rfl)) (by decide +kernel) (by decide +kernel) (by decide +kernel)
    (by first | exact .inl (by decide +kernel) | exact .inr (by decide +kernel)) (by rw [isSubtype_type]; kernel_rfl)
theorem entry_fga : entryFor table "object.__getattribute__" = some Builtin.«object.__getattribute__» := entryFor_of_tree (by kernel_rfl)
theorem args_fga (a b : Value) : argsOk "object.__getattribute__" ⟨[a, b], []⟩ := by unfold argsOk; kernel_rfl
theorem fn_ga0 : typeLookup (.type "function") "__getattr__" = pure none := lkT (by kernel_rfl)
theorem fn_read : typeLookup (.type "function") "read" = pure none := lkT (by kernel_rfl)

theorem ns_look {h : Heap} {d : Addr} {m : Str → Option Value} (hns : h.Ns d m) : ∃ o, h.get? d = some o ∧ ∀ name, nsLook name o = pure (m name) := by
  obtain ⟨o, es, ep, ho, hd, hk, hm⟩ := hns
  refine ⟨o, ho, fun name => ?_⟩
  rw [← hm name]
  simp only [nsLook_eq, nsLookByArray, hd, nsFind, findBy]
  cases hf : es.find? (·.key.isStr name) with
  | some e => rfl
  | none =>
    have : es.any (·.refKey) = false := by
      rw [Array.any_eq_false']; intro e he; obtain ⟨n, t, h⟩ := hk e he; simp [DictEntry.refKey, h]
    simp only [this, Bool.false_eq_true, if_false, Option.map_none]

section
variable {prog : Program} {w : World} {A : Around} {E : Value → Shared → Prop} {h : Heap} {g : Array GenState} {d : Drawn} {t : Nat} {os : OsState} {a dx : Addr} {mA : Str → Option Value}

theorem fn_load_entry {tk : Tok} {v : Value} {Q : Fin → Shared → Prop} (I : FnObj h a dx mA) (hv : mA "read" = some v) (hq : Q (.done (.ret v)) ⟨h, g, d, t, os⟩) :
    wpAny (model prog w) A (Builtin.«object.__getattribute__» ⟨[.ref a, .str "read" tk], []⟩) Q E ⟨h, g, d, t, os⟩ := by
  obtain ⟨o, hx, hc, ⟨fd, hdt⟩, hdx⟩ := I.obj
  have hns := I.ns
  have f1 := fn_read
  obtain ⟨oc, od, odt, osl⟩ := o
  simp only at hc hdt hdx
  subst hc hdt hdx
  unfold Builtin.«object.__getattribute__»
  repeat (first | (with_reducible refine wpAny_loadPart_at hx ?_) | wp_step)
  obtain ⟨od, hod, hl⟩ := ns_look hns
  repeat (first | (with_reducible refine wpAny_loadPart_at hod ?_; rw [hl, hv]) | wp_step)
  exact hq

theorem fn_getAttr {v : Value} {expr : Bool} {Q : Value → Shared → Prop} (I : FnObj h a dx mA) (hv : mA "read" = some v) (hh : handedOut v = pure v) (hq : Q v ⟨h, g, d, t + 1, os⟩) :
    wpAny (model prog w) A (getAttr (.ref a) "read" expr) Q E ⟨h, g, d, t, os⟩ := by
  obtain ⟨o, hx, hc, ⟨fd, hdt⟩, hdx⟩ := id I.obj
  have f2 := fn_ga
  obtain ⟨oc, od, odt, osl⟩ := o
  simp only at hc hdt hdx
  subst hc hdt hdx
  have hT : (⟨h, g, d, t + 1, os⟩ : Shared).TypeIs (.ref a) "function" := ⟨_, hx, rfl⟩
  unfold getAttr getAttrBy
  repeat (first | (with_reducible refine wpAny_loadPart_at hx ?_) | wp_step)
  show wpAny _ _ (if (expr && false) = true then _ else boundAndCalled (.builtin "object.__getattribute__") (.ref a) (.str "read" t)) _ _ _
  rw [Bool.and_false, if_neg (by decide)]
  unfold boundAndCalled
  rw [slot_fga.bind]
  refine wpAny_bind (wpAny_pure ?_)
  refine wpAny_call_entry slot_fga hT entry_fga (fn_load_entry I hv ⟨v, rfl, ?_⟩) (args_fga _ _)
  show wpAny _ _ (handedOut v) _ _ _
  rw [hh]
  exact wpAny_pure hq

theorem fn_method {pl : Sem Bool} {f : Addr} {Q : Value × List Value → Shared → Prop} (I : FnObj h a dx mA) (hv : mA "read" = some (.ref f)) (hq : Q (.ref f, []) ⟨h, g, d, t + 1, os⟩) :
    wpAny (model prog w) A (getMethod (.ref a) "read" pl) Q E ⟨h, g, d, t, os⟩ := by
  obtain ⟨o, hx, hc, _⟩ := id I.obj
  have hT : (⟨h, g, d, t, os⟩ : Shared).TypeIs (.ref a) "function" := ⟨o, hx, hc⟩
  have usual : wpAny (model prog w) A (getAttr (.ref a) "read" >>= fun v => pure (v, ([] : List Value))) Q E ⟨h, g, d, t, os⟩ := wpAny_bind (fn_getAttr I hv rfl (wpAny_pure hq))
  unfold getMethod
  refine wpAny_bind (wpAny_specialOf hT fn_ga ?_)
  show wpAny _ _ (if (Manifest.canonical "object.__getattribute__" != "object.__getattribute__") = true then _ else _) _ _ _
  rw [F.canon_object_ga, if_neg (by decide)]
  refine wpAny_bind (wpAny_specialOf hT fn_ga0 ?_)
  rw [if_neg (by simp)]
  refine wpAny_bind (wpAny_specialOf hT fn_read ?_)
  exact usual

theorem slot_fsa : Slot "function" "__setattr__" "object.__setattr__" :=
  .of (owner := "object") (n := "__setattr__") (lkT (by kernel_rfl)) (by decide +kernel) (by decide +kernel) (by decide +kernel)
    (by first | exact .inl (by decide +kernel) | exact .inr (by decide +kernel)) (by rw [isSubtype_type]; kernel_rfl)
theorem args_fsa (a b c : Value) : argsOk "object.__setattr__" ⟨[a, b, c], []⟩ := by unfold argsOk; kernel_rfl
theorem fn_mro : mroOf (.type "function") = pure [.type "function", .type "object"] := by kernel_rfl
theorem fn_passes (self : Value) : refuseLoop self "__setattr__" [.type "function", .type "object"] = pure () := by kernel_rfl

theorem fn_store {v : Value} {o : Obj} {Q : Unit → Shared → Prop} (hx : h.get? a = some o) (hc : o.cls = .type "function") (hdt : ∃ fd, o.data = .func fd) (hd : o.dict = none)
    (hq : ∀ h' tk' dx, h.objs.size ≤ dx → dx ≠ a → FnObj h' a dx (fun y => if y = "read" then some v else none) → (∀ b o, b ≠ a → h.get? b = some o → h'.get? b = some o) → h.objs.size ≤ h'.objs.size → (∃ o', h'.get? a = some o' ∧ o'.data = o.data) → Q () ⟨h', g, d, tk', os⟩) :
    wpAny (model prog w) A (setAttr (.ref a) "read" v) Q E ⟨h, g, d, t, os⟩ := by
  obtain ⟨fd, hdt⟩ := hdt
  have hT : (⟨h, g, d, t + 1, os⟩ : Shared).TypeIs (.ref a) "function" := ⟨_, hx, hc⟩
  have hpass := fn_passes (.ref a)
  have f1 := fn_mro
  have f2 := fn_read
  unfold setAttr
  refine wpAny_bind (wpAny_mkText ?_)
  refine wpAny_bind (wpAny_callSpecial?_slot (name := Str.ofString "__setattr__") hT slot_fsa (wpAny_call_entry slot_fsa hT F.entry_object_sa ?_ (args_fsa _ _ _)))
  unfold Builtin.«object.__setattr__»
  repeat (first | rw [refuse_eq] | rw [hpass] | (with_reducible refine wpAny_loadPart_at hx ?_; rw [hc]) | wp_step)
  rw [hd, hdt, if_neg (by decide)]
  have hx₁ : (h.push { cls := .type "dict", data := .dict #[] }).get? a = some o := Heap.get?_push_of_some _ hx
  have hxs : a ≠ h.objs.size := Nat.ne_of_lt (Heap.lt_size hx)
  refine wpAny_bind (wpAny_alloc' ?_)
  refine wpAny_bind (wpAny_update' hx₁ ?_)
  refine wpAny_pure ?_
  have hgd : ((h.push { cls := .type "dict", data := .dict #[] }).update a fun o => { cls := o.cls, dict := some h.objs.size, data := o.data, slots := o.slots }).get? h.objs.size
      = some { cls := .type "dict", data := .dict #[] } :=
    (Heap.get?_update_ne _ _ _ _ hxs.symm).trans (Heap.get?_push_at rfl rfl)
  have hnd : ((h.push { cls := .type "dict", data := .dict #[] }).update a fun o => { cls := o.cls, dict := some h.objs.size, data := o.data, slots := o.slots }).Ns h.objs.size (fun _ => none) :=
    ⟨_, #[], _, hgd, rfl, fun e he => absurd he (by simp), fun _ => rfl⟩
  show wpAny _ _ (storeInDict h.objs.size (.str "read" t) "read" v) _ _ _
  unfold storeInDict newKeyGuard
  refine wpAny_bind (wpAny_pure (wpAny_bind (wpAny_nsSet1 (Heap.Ns1.of_empty hnd) fun h' hn' hs => ?_)))
  obtain ⟨oD, esD, epD, hoD, hdD, hcD⟩ := hn'.count (Within.cons "read" v Within.nil)
  refine wpAny_bind (wpAny_lookBehind hoD (by rw [hdD]; exact pastItsLine_dict (Nat.le_trans hcD (by rw [List.length_cons, List.length_nil, sizeLine_eq]; first | lia | omega))) ?_)
  refine wpAny_pure ⟨_, rfl, wpAny_pure ?_⟩
  have hx' : h'.get? a = some { cls := o.cls, dict := some h.objs.size, data := o.data, slots := o.slots } := by
    refine (hs.2 a hxs).trans (Heap.get?_update_self _ hx₁ ?_)
    have hfr := (Heap.get?_some_iff.mp hx).2
    obtain ⟨oc, od, odt, osl⟩ := o
    cases odt <;> first | rfl | exact hfr
  refine hq h' _ h.objs.size (Nat.le_refl _) hxs.symm ⟨⟨_, hx', hc, ⟨fd, hdt⟩, rfl⟩, hxs.symm, ?_⟩ (fun b ob hbx hb => ?_) ?_ ⟨_, hx', rfl⟩
  · obtain ⟨o', es, ep, e1, e2, e3, eu, e4⟩ := hn'
    exact ⟨o', es, ep, e1, e2, e3, e4⟩
  · exact (hs.2 b (Nat.ne_of_lt (Heap.lt_size hb))).trans ((Heap.get?_update_ne _ _ _ _ hbx).trans (Heap.get?_push_of_some _ hb))
  · have := hs.1
    rw [this]
    simp [Heap.update, Heap.push]
end
end Mine
namespace Mine
open PySem PyProof.Rows

/-- the def within a def -/
noncomputable def readOf (p : Program) (i : Nat) : Option (Arguments × List Stmt × Scope) := match bodyOf (defAt p i) with
  | .FunctionDef _ a b _ _ _ sc _ _ _ :: _ => some (a, b, sc)
  | _ => none
noncomputable def argsOf (x : Option (Arguments × List Stmt × Scope)) : Arguments := match x with
  | some y => y.1
  | none => ⟨[], [], none, [], [], none, []⟩

/-- the objects behind a stream: the lambda, its dict, the def, its code, the cell -/
structure StreamX (p : Program) (i : Nat) (objs : List (Addr × Obj)) (a left d f c' cl : Addr) (ob od oc ocl : Obj) (qual : Str) (doc pm ctv : Value) (es : Array DictEntry) (ep : Nat) (vs : Array Value) (t : Tok) : Prop where
  e : objs = [(a, ob), (d, od), (f, W.fnMade "_law_read" qual (argsOf (readOf p i)) (bodyOf (readOf p i)) (scopeOf (readOf p i)) [("left", cl)] doc pm c' ctv), (c', oc), (cl, ocl)]
  bc : ob.cls = .type "function"
  bf : ∃ fd, ob.data = .func fd
  bd : ob.dict = some d
  ne : d ≠ a
  dd : od.data = .dict es ep
  dk : StrKeys es
  dm : ∀ y, nsFind es y = if y = "read" then some (.ref f) else none
  cd : oc.data = .fields vs
  cq : vs[1]? = some (.str qual t)
  ll : ocl.data = .cell (some (.ref left))
noncomputable def StreamIs (p : Program) (i : Nat) (objs : List (Addr × Obj)) (a left : Addr) : Prop := ∃ d f c' cl ob od oc ocl qual doc pm ctv es ep vs t, StreamX p i objs a left d f c' cl ob od oc ocl qual doc pm ctv es ep vs t

/-- the colours when all that is new is let be -/
noncomputable def fzC (x : St) (a : Addr) : Col := if (x.h.get? a).isSome then x.κ a else .fz
/-- all that is new is let be; the one table grows -/
theorem grow {T : Tp} {x : St} {σ : Sto} {h' : Heap} {tk : Nat} {b : Bool} (I : Inv T x σ) (h0 : σ.get 0 = some (.tab b)) (hk : ∀ a o, a ≠ x.γ 0 → x.h.get? a = some o → h'.get? a = some o) (hP : ∃ ps, h'.get? (x.γ 0) = some { cls := .none, data := .fields ps }) :
    Step Pe x (x.re h' tk (fzC x)) ∧ Inv T (x.re h' tk (fzC x)) (σ.upd 0 (.tab false)) := by
  obtain ⟨hga, hc, ps, hg, _⟩ := I.objs _ _ h0
  have hκ : ∀ a o, x.h.get? a = some o → fzC x a = x.κ a := fun a o e => if_pos (by rw [e]; rfl)
  have M : But (fun a => x.κ a = .ob 0) x (x.re h' tk (fzC x)) := ⟨fun a o e q => hk a o (fun z => q (z ▸ hc)) e, hκ, fun _ _ => rfl, Nat.le_refl _, rfl, rfl⟩
  refine ⟨M.step (fun a e => by rw [Pe, e]; rfl) fun a o _ e => (Classical.em (a = x.γ 0)).elim (fun z => z ▸ hP.elim fun ps e => ⟨_, e⟩) fun z => ⟨o, hk a o z e⟩, upd_inv M I (I.lt _ _ h0) rfl ⟨hga, (hκ _ _ hg).trans hc, hP.elim fun ps e => ⟨ps, e, Bool.noConfusion⟩⟩⟩
end Mine
namespace Mine
open PySem PyProof.Rows Builtin

theorem slot_cit_next : Slot "callable_iterator" "__next__" "callable_iterator.__next__" :=
  .of (owner := "callable_iterator") (n := "__next__") (lkT (by kernel_rfl)) (by decide +kernel) (by decide +kernel) (by decide +kernel)
    (by first | exact .inl (by decide +kernel) | exact .inr (by decide +kernel)) (by rw [isSubtype_type]; kernel_rfl)
theorem slot_cit_iter : Slot "callable_iterator" "__iter__" "callable_iterator.__iter__" :=
  .of (owner := "callable_iterator") (n := "__iter__") (lkT (by kernel_rfl)) (by decide +kernel) (by decide +kernel) (by decide +kernel)
    (by first | exact .inl (by decide +kernel) | exact .inr (by decide +kernel)) (by rw [isSubtype_type]; kernel_rfl)
theorem entry_cit_next : entryFor table "callable_iterator.__next__" = some Builtin.«callable_iterator.__next__» := entryFor_of_tree (by kernel_rfl)
theorem args_cit_next (a : Value) : argsOk "callable_iterator.__next__" ⟨[a], []⟩ := by unfold argsOk; kernel_rfl
theorem args_cit_iter (a : Value) : argsOk "callable_iterator.__iter__" ⟨[a], []⟩ := by unfold argsOk; kernel_rfl
theorem entry_cit_iter : entryFor table "callable_iterator.__iter__" = some Builtin.«dict_keyiterator.__iter__» :=
  entryFor_alias (id' := "dict_keyiterator.__iter__") (by kernel_rfl) rfl (by decide +kernel) (by kernel_rfl)

noncomputable def citObj (f : Value) (t : Tok) : Obj := { cls := .type "callable_iterator", data := .fields #[f, .str ⟨#[]⟩ t, .bool false] }
noncomputable def citEnd : Obj := { cls := .type "callable_iterator", data := .fields #[.none, .none, .bool true] }

section
variable {prog : Program} {w : World} {A : Around} {E : Value → Shared → Prop} {s : Shared}

theorem wpAny_callBorrowed {M : Model} {f : Value} {pos : List Value} {Q : Value → Shared → Prop}
    (hc : codeAny M A (.call f ⟨pos, []⟩) (fun r s' => match r with | .ok (.ret v) => Q v s' | .ok _ => False | .error e => E e s') s) : wpAny M A (callBorrowed f pos) Q E s := fun Γ p hΓ => by
  refine wpCode_mono (fun r s' h => ?_) (hc _ p rfl (hΓ.enter (.call f ⟨pos, []⟩) none p (by intro x; cases x)))
  cases r with
  | error e => exact h
  | ok fl => cases fl <;> first | exact h | exact h.elim

theorem pyIter_cit {it : Addr} {o : Obj} {Q : Value → Shared → Prop} (ho : s.heap.get? it = some o) (hc : o.cls = .type "callable_iterator") (h : Q (.ref it) s) : wpAny (model prog w) A (pyIter (.ref it)) Q E s := by
  have hT : s.TypeIs (.ref it) "callable_iterator" := ⟨o, ho, hc⟩
  refine wpAny_pyIter_slot hT slot_cit_iter (wpAny_call_entry slot_cit_iter hT entry_cit_iter ?_ (args_cit_iter _))
  show wpAny _ _ (ret (.ref it)) _ _ s
  exact wpAny_pure ⟨_, rfl, "callable_iterator", _, hT, slot_cit_next.lookup, h⟩

theorem pyNext_cit {it bm f : Addr} {x : Value} {t : Tok} {of : Obj} {Q : Option Value → Shared → Prop} (hh : A.handled = none) (ho : s.heap.get? it = some (citObj (.ref bm) t)) (hb : s.heap.get? bm = some (W.methodObj (.ref f) x)) (hf : s.heap.get? f = some of) (hfd : ∃ fd, of.data = .func fd)
    (h : codeAny (model prog w) A.in1 (.call (.ref f) ⟨[x], []⟩) (CallR fun r s' => ∃ y t', r = .str y t' ∧ s'.heap.get? it = some (citObj (.ref bm) t) ∧ s'.heap.get? bm = some (W.methodObj (.ref f) x) ∧ s'.heap.get? f = some of ∧
      if y = ⟨#[]⟩ then ∀ h', Heap.ExtBut it s'.heap h' → h'.get? it = some citEnd → Q none { s' with heap := h' } else Q (some (.str y t')) s') s) :
    wpAny (model prog w) A (pyNext (.ref it)) Q E s := by
  have hT : s.TypeIs (.ref it) "callable_iterator" := ⟨_, ho, rfl⟩
  unfold pyNext
  refine wpAny_bind (wpAny_attempt (wpAny_callSpecial?_slot (name := Str.ofString "__next__") hT slot_cit_next
    (wpAny_call_entry slot_cit_next hT entry_cit_next ?_ (args_cit_next _))))
  show wpAny _ _ (field (.ref it) 2 >>= _) _ _ s
  refine wpAny_bind (wpAny_field ho rfl (x := .bool false) rfl ?_)
  show wpAny _ _ (if (Value.bool false == Value.bool true) = true then _ else _) _ _ s
  rw [if_neg (by decide)]
  have bx : ∀ {s₁ : Shared} {A' : Around} {E' : Value → Shared → Prop} {Q' : Bool → Shared → Prop}, s₁.heap.get? bm = some (W.methodObj (.ref f) x) → s₁.heap.get? f = some of → Q' true s₁ → wpAny (model prog w) A' (borrowsExactly (.ref bm)) Q' E' s₁ := fun {s₁ A' E' Q'} h1 h2 q => by
    obtain ⟨fd, hfd⟩ := hfd
    unfold borrowsExactly
    refine wpAny_bind (wpAny_load h1 ?_)
    show wpAny _ _ (if (Value.type "method" == Value.type "method") = true then _ else _) _ _ _
    rw [if_pos (by decide)]
    show wpAny _ _ (load f >>= _) _ _ _
    refine wpAny_bind (wpAny_load h2 ?_)
    rw [hfd]
    exact wpAny_pure q
  show wpAny _ _ (field (.ref it) 0 >>= _) _ _ s
  refine wpAny_bind (wpAny_field ho rfl (x := .ref bm) rfl ?_)
  refine wpAny_bind (wpAny_attempt ?_)
  unfold callOutOfASlot
  refine wpAny_bind (bx hb hf ?_)
  rw [if_pos rfl]
  refine wpAny_callBorrowed (ks_codeAny_call_bound hb (codeAny_mono h fun r s₁ q => ?_))
  cases r with
  | error e => exact q.elim
  | ok fl =>
    cases fl with
    | ret r =>
      obtain ⟨y, t', rfl, ho1, hb1, hf1, q⟩ := q
      show wpAny _ _ (field (.ref it) 2 >>= _) _ _ s₁
      refine wpAny_bind (wpAny_field ho1 rfl (x := .bool false) rfl ?_)
      show wpAny _ _ (if (Value.bool false == Value.bool true) = true then _ else _) _ _ s₁
      rw [if_neg (by decide)]
      show wpAny _ _ (field (.ref it) 1 >>= _) _ _ s₁
      refine wpAny_bind (wpAny_field ho1 rfl (x := .str ⟨#[]⟩ t) rfl ?_)
      refine wpAny_bind (wpAny_holding (wpAny_eqBool_str ?_))
      by_cases hy : y = ⟨#[]⟩
      · subst hy
        rw [if_pos rfl] at q
        simp only [decide_true, Bool.not_true, Bool.false_eq_true, if_false]
        refine wpAny_bind (wpAny_rule (wpAny_bind ?_))
        show wpAny _ _ (field (.ref it) 0 >>= _) _ _ s₁
        refine wpAny_bind (wpAny_field ho1 rfl (x := .ref bm) rfl ?_)
        show wpAny _ _ (slotLetsGo _ (.ref bm) _ >>= _) _ _ s₁
        unfold slotLetsGo
        refine wpAny_bind ?_
        show wpAny _ _ (borrowsExactly (.ref bm) >>= _) _ _ s₁
        refine wpAny_bind (bx hb1 hf1 ?_)
        rw [if_pos rfl]
        refine wpAny_pure ?_
        refine wpAny_bind (wpAny_setField_rec ho1 (by simp) fun h2 ho2 hs2 => ?_)
        refine wpAny_bind (wpAny_setField_rec ho2 (by simp) fun h3 ho3 hs3 => ?_)
        refine wpAny_setField_rec ho3 (by simp) fun h4 ho4 hs4 => ?_
        show wpAny _ _ (newExc (.type "StopIteration") [] >>= _) _ _ _
        refine wpAny_bind ?_
        simp only [newExc, newTuple]
        refine wpAny_bind (wpAny_newObj_type ?_ (by size_fits))
        refine wpAny_bind (m := firstArgMember _ _) (wpAny_of_eq (a := Value.none) (by first | rfl | (simp only [firstArgMember]; rfl)) ?_)
        refine wpAny_newObj_type ?_ (by size_fits)
        simp only [raiseNew]
        refine wpAny_bind (wpAny_handled ?_)
        rw [show A.in1.handled = none from hh]
        refine wpAny_bind (wpAny_pure (wpAny_throw ?_))
        refine wpAny_bind (wpAny_isInstance (T := "StopIteration") (b := true) ⟨_, Heap.get?_push_size _ rfl, rfl⟩ isSubtype_stop ?_)
        exact wpAny_pure (q _ (fun b o hb e => Heap.get?_push_of_some _ (Heap.get?_push_of_some _ ((hs4.2 b hb).trans ((hs3.2 b hb).trans ((hs2.2 b hb).trans e))))) (Heap.get?_push_of_some _ (Heap.get?_push_of_some _ ho4)))
      · rw [if_neg hy] at q
        rw [show decide ((⟨#[]⟩ : Str) = y) = false from decide_eq_false fun e => hy e.symm]
        simp only [Bool.not_false, if_true]
        exact wpAny_pure ⟨_, rfl, wpAny_pure q⟩
    | _ => exact q.elim

/-- it has ended -/
theorem pyNext_end {it : Addr} {Q : Option Value → Shared → Prop} (hh : A.handled = none) (ho : s.heap.get? it = some citEnd) (hQ : ∀ h', Heap.ExtBut it s.heap h' → h'.get? it = some citEnd → Q none { s with heap := h' }) :
    wpAny (model prog w) A (pyNext (.ref it)) Q E s := by
  have hT : s.TypeIs (.ref it) "callable_iterator" := ⟨_, ho, rfl⟩
  unfold pyNext
  refine wpAny_bind (wpAny_attempt (wpAny_callSpecial?_slot (name := Str.ofString "__next__") hT slot_cit_next
    (wpAny_call_entry slot_cit_next hT entry_cit_next ?_ (args_cit_next _))))
  show wpAny _ _ (field (.ref it) 2 >>= _) _ _ s
  refine wpAny_bind (wpAny_field ho rfl (x := .bool true) rfl ?_)
  show wpAny _ _ (if (Value.bool true == Value.bool true) = true then _ else _) _ _ s
  rw [if_pos (by decide)]
  refine wpAny_bind (wpAny_rule ?_)
  refine wpAny_bind ?_
  show wpAny _ _ (newExc (.type "StopIteration") [] >>= _) _ _ _
  refine wpAny_bind ?_
  simp only [newExc, newTuple]
  refine wpAny_bind (wpAny_newObj_type ?_ (by size_fits))
  refine wpAny_bind (m := firstArgMember _ _) (wpAny_of_eq (a := Value.none) (by first | rfl | (simp only [firstArgMember]; rfl)) ?_)
  refine wpAny_newObj_type ?_ (by size_fits)
  simp only [raiseNew]
  refine wpAny_bind (wpAny_handled ?_)
  rw [show A.in1.handled = none from hh]
  refine wpAny_bind (wpAny_pure (wpAny_throw ?_))
  refine wpAny_bind (wpAny_isInstance (T := "StopIteration") (b := true) ⟨_, Heap.get?_push_size _ rfl, rfl⟩ isSubtype_stop ?_)
  exact wpAny_pure (hQ _ (fun b o hb e => Heap.get?_push_of_some _ (Heap.get?_push_of_some _ e)) (Heap.get?_push_of_some _ (Heap.get?_push_of_some _ ho)))

theorem entry_iter2 : entryFor table "iter" = some Builtin.«iter» := entryFor_of_fast (by kernel_rfl)
theorem args_iter2 (a b : Value) : argsOk "iter" ⟨[a, b], []⟩ := by unfold argsOk; kernel_rfl
theorem meth_call_lk : typeLookup (.type "method") "__call__" = pure (some (.builtin "method.__call__")) := lkT (by kernel_rfl)

/-- the iterator is made -/
theorem call_iter {bm f : Addr} {x : Value} {t : Tok} {Q : Value → Shared → Prop} (hb : s.heap.get? bm = some (W.methodObj (.ref f) x)) (hQ : Q (.ref s.heap.objs.size) { s with heap := s.heap.push (citObj (.ref bm) t) }) :
    wpAny (model prog w) A (call (.builtin "iter") [.ref bm, .str ⟨#[]⟩ t]) Q E s := by
  refine Calls.call_function_entry (by decide +kernel) (by decide +kernel) entry_iter2 (args_iter2 _ _) ?_
  unfold Builtin.«iter»
  refine wpAny_bind (m := someArgs "iter" 1 2 _) (wpAny_of_eq (a := [Value.ref bm, .str ⟨#[]⟩ t]) (by first | rfl | kernel_rfl) ?_)
  refine wpAny_bind (wpAny_specialOf (T := "method") ⟨_, hb, rfl⟩ meth_call_lk ?_)
  simp only [Option.isNone_some, Bool.false_eq_true, if_false]
  refine wpAny_bind (wpAny_rule (wpAny_bind ?_))
  unfold newFields
  refine wpAny_newObj_type ?_ (by size_fits)
  exact wpAny_pure ⟨_, rfl, hQ⟩
end
end Mine
namespace Mine
open PySem PyProof.Rows Builtin Builtin.ObjectAttr

theorem fn_get0 : typeLookup (.type "function") "__get__" = pure (some (.builtin "function.__get__")) := lkT (by kernel_rfl)
theorem fn_set0 : typeLookup (.type "function") "__set__" = pure none := lkT (by kernel_rfl)
theorem fn_del0 : typeLookup (.type "function") "__delete__" = pure none := lkT (by kernel_rfl)

section
variable {prog : Program} {w : World} {A : Around} {E : Value → Shared → Prop} {h : Heap} {g : Array GenState} {d : Drawn} {t : Nat} {os : OsState}
variable {nm q : Str} {C N x f : Addr} {of : Obj} {bs : List Value} {sn : List Str} {sub : List Value} {ab : Bool} {col : Option Bool} {dd : Option Addr} {k0 k1 k2 k3 k5 : Option Value} {newId : String} {mN mA : Str → Option Value}

theorem fn_bind {tp : Value} {R : Result → Shared → Prop} (ho : h.get? f = some of) (hc : of.cls = .type "function") (hq : R (.ok (.ret (.ref h.objs.size))) ⟨h.push (W.methodObj (.ref f) (.ref x)), g, d, t, os⟩) :
    codeAny (model prog w) A (.call (.builtin "function.__get__") ⟨[.ref f, .ref x, tp], []⟩) R ⟨h, g, d, t, os⟩ := by
  refine codeAny_call_builtin W.KF.slot_fn.plain W.KF.entry_fn (W.KF.slot_fn.check _ _ _ _ _ _ _ _ ⟨_, ho, hc⟩ (W.KF.args_fn _ _ _) ?_)
  repeat k_node
  exact hq

theorem bound_entry {tk : Tok} {Q : Fin → Shared → Prop}
    (hC : h.get? C = some (excClassObj nm q C N bs [.type "object"] true sn sub ab col dd k0 k1 k2 k3 k5 newId)) (hn : h.Ns N mN) (hf : mN "_read_char" = some (.ref f)) (hg0 : mN "__getattr__" = none) (hfo : h.get? f = some of) (hfc : of.cls = .type "function")
    (I : h.Inst x C mA) (hv : mA "_read_char" = none) (hq : Q (.done (.ret (.ref h.objs.size))) ⟨h.push (W.methodObj (.ref f) (.ref x)), g, d, t, os⟩) :
    wpAny (model prog w) A (Builtin.«proto.getattr_hooked» ⟨[.ref x, .str "_read_char" tk], []⟩) Q E ⟨h, g, d, t, os⟩ := by
  have hB := no_obj "_read_char" (by decide)
  obtain ⟨o, hx, hc, hnc, hd⟩ := I
  have hT : (⟨h, g, d, t, os⟩ : Shared).TypeIs (.ref f) "function" := ⟨_, hfo, hfc⟩
  have f1 := fn_get0
  have f2 := fn_set0
  have f3 := fn_del0
  unfold Builtin.«proto.getattr_hooked»
  repeat (first | (with_reducible refine wpAny_loadPart_at hx ?_; rw [hc]) | (with_reducible refine wpAny_typeLookup_exc hC hn F.mro_object hB ?_; rw [hf]) | wp_step)
  split
  · rename_i c hcd
    exact absurd hcd (hnc c)
  unfold instanceDict
  repeat (first | (with_reducible refine wpAny_loadPart_at hx ?_; rw [hc]) | with_reducible refine wpAny_loadPart_at hC ?_ | wp_step)
  rcases hd with ⟨hdn, _⟩ | ⟨dx, hdx, _, hns⟩
  · rw [hdn]
    repeat (first | (with_reducible refine wpAny_typeLookup_exc hC hn F.mro_object F.lk_object_getattr ?_; rw [hg0]) | wp_step)
    exact fn_bind hfo hfc (wpAny_pure hq)
  · rw [hdx]
    obtain ⟨od, hod, hl⟩ := ns_look hns.ns
    repeat (first | (with_reducible refine wpAny_loadPart_at hod ?_; rw [hl, hv]) | (with_reducible refine wpAny_typeLookup_exc hC hn F.mro_object F.lk_object_getattr ?_; rw [hg0]) | wp_step)
    exact fn_bind hfo hfc (wpAny_pure hq)

theorem bound_attr {expr : Bool} {Q : Value → Shared → Prop}
    (hC : h.get? C = some (excClassObj nm q C N bs [.type "object"] true sn sub ab col dd k0 k1 k2 k3 k5 newId)) (hn : h.Ns N mN) (hng : mN "__getattribute__" = none) (hf : mN "_read_char" = some (.ref f)) (hg0 : mN "__getattr__" = none) (hfo : h.get? f = some of) (hfc : of.cls = .type "function")
    (I : h.Inst x C mA) (hv : mA "_read_char" = none) (hq : Q (.ref h.objs.size) ⟨h.push (W.methodObj (.ref f) (.ref x)), g, d, t + 1, os⟩) :
    wpAny (model prog w) A (getAttr (.ref x) "_read_char" expr) Q E ⟨h, g, d, t, os⟩ := by
  obtain ⟨o, hx, hc, _⟩ := id I
  unfold getAttr getAttrBy
  repeat (first | (with_reducible refine wpAny_loadPart_at hx ?_; rw [hc]) | (with_reducible refine wpAny_typeLookup_exc hC hn F.mro_object F.lk_object_ga ?_; rw [hng]) | wp_step)
  show wpAny _ _ ((runValue (.builtin "proto.getattr_hooked" ⟨[.ref x, .str "_read_char" t], []⟩)).onRaise (noteIf true (.ref x) (.str "_read_char" t))) _ _ _
  refine wpAny_onRaise (wpAny_runValue (codeAny_builtin F.plainObj_entry_getattr_hooked (bound_entry hC hn hf hg0 hfo hfc I hv ?_)))
  show wpAny _ _ (handedOut (.ref _)) _ _ _
  exact wpAny_pure hq
end
end Mine
namespace Mine
open PySem PyProof.Rows
abbrev pw := PySem.Challenge.pw_ph0119_02
noncomputable abbrev ci : Nat := 1
noncomputable abbrev si : Nat := 58
end Mine
namespace Mine
open PySem PyProof.Rows

section
variable {T : Tp} {c : Cfg} {Φ : Fns} {k : Nat} {A : Around} {env : Env} {sc : Scope} {m : Fm} {x y : St} {σ : Sto} {args : List AV} {u v : Value} {vs : List Value} {P : AV × Sto → Prop} {Q : Value → Shared → Prop} {tk : Nat}
variable {N : Addr} {mN mA : Str → Option Value} {l lf : Nat} {ln : Int} {push : List AV} {n : Str}

theorem Inv.toks (I : Inv T x σ) : Inv T (x.to x.h tk) σ := Ext.toks.inv I rfl
theorem FrOk.toks (F : FrOk T env sc m x) : FrOk T env sc m (x.to x.h tk) := F.step Ext.toks.step
theorem Rep.untok {a : AV} (R : Rep T (x.to x.h tk) a u) : Rep T x a u := Rep.go (x := x.to x.h tk) (y := x) (C := fun _ => True) ⟨fun _ _ e _ => e, fun _ _ _ _ => rfl, fun _ _ => rfl, Nat.le_refl _⟩ (fun _ _ => trivial) a R
theorem fn_one {f g u : Value} (h : some f = some g) (e : some f = some u) : g = u := Option.some.inj (h.symm.trans e)

theorem look_ok' (O : TopOk T c) (I : Inv T x σ) (F : FrOk T env sc m x) {p : Pos} {a : AV} (e : look c sc m n = some a) (h : ∀ u, Rep T x a u → Q u x.s) : Wp T A (eval (.Name n p) env) Q x :=
  have z := look_ok (A := A) (Q := Q) O I F (Pa := fun v => v = a) (by rw [e]; exact rfl) fun v u e r => h u (e ▸ r)
  wpAny_Name z.2 z.1
/-- the lexer's field that is read as an attribute of a name -/
theorem attr_self (X : LexTop T N mN) (O : TopOk T c) (I : Inv T x σ) (F : FrOk T env sc m x) {nx : Str} {p p' : Pos}
    (hx : look c sc m nx = some (.loc l)) (hi : x.h.Inst (x.γ l) T.C mA) (hn : n ∈ lexNames) (hv : mA n = some v) (hh : handedOut v = pure v) (h : Q v { x.s with toks := x.s.toks + 1 }) :
    Wp T A (eval (.Attribute (.Name nx p) n p') env) Q x := by
  rw [arm_eval_Attribute, base_plain rfl]
  refine wpAny_bind (look_ok' O I F hx fun u r => ?_)
  rw [r.1]
  exact wpAny_bind (wpAny_standAt (wpAny_bind (wpAny_holding (lex_load X I hi hn hv hh (wpAny_bind (wpAny_letTemporaryGo (wpAny_pure h)))))))

/-- the lexer's line of pushed words is rewritten -/
theorem upd_push (I : Inv T x σ) {push' : List AV} {o : Obj} {d pb : Addr} {ws us : List Value} {ep ep' : Nat} {sv : Value} {t u : Tok} {h' : Heap} (hg : σ.get l = some (.lexer ln lf push))
    (r : LexR T x l ln lf push o d pb ws ep sv t u mA) (hs : Heap.SameBut pb x.h h') (hl : h'.get? pb = some (lobj us ep')) (hb : push'.length ≤ 2 ^ 24) (rp : RepL T x push' us) :
    Step Pe x (x.to h' tk) ∧ Inv T (x.to h' tk) (σ.upd l (.lexer ln lf push')) := by
  have M : But (fun a => x.κ a = .ob l) x (x.to h' tk) := (But.same hs).more fun a e => e ▸ r.p.c
  have S : Step Pe x (x.to h' tk) := M.step (fun a e => congrArg Col.isOb e) fun a o _ e => (Classical.em (a = pb)).elim (fun e => ⟨_, e ▸ hl⟩) fun ne => ⟨o, (hs.2 a ne).trans e⟩
  exact ⟨S, upd_inv M I (I.lt _ _ hg) rfl ⟨o, d, pb, us, ep', sv, t, u, mA, (hs.2 _ r.pl.symm).trans r.g, r.cls, r.nc, r.od, r.ne, Heap.Ns1.at r.N fun o ho => (hs.2 d r.pd.symm).trans ho, r.c1, r.c2, r.pd, r.pl, r.m1, r.m2, r.r1.step S, r.m3, r.m4, r.m5, r.p.c, hl, hb, rp.step S⟩⟩

/-- a method's call, by its parts -/
theorem call_attr {prog : Program} {w : World} {s : Shared} {e : Expr} {nm : Str} {ap p : Pos} {es : List Expr} (hb : okBase e = true) (hline : ap.endLine = p.line) (hlen : es.length < 30) (hstar : (backTo p (starEach es env)).all (fun x => !x.1) = true)
    (h : wpAny (model prog w) A (eval e env) (fun a s₁ => ∀ pl, wpAny (model prog w) A (getMethod a nm pl) (fun fm s₂ => wpAny (model prog w) A (callWith p fm.1 fm.2 (backTo p (starEach es env)) []) Q NoE s₂) NoE s₁) NoE s) :
    wpAny (model prog w) A (eval (.Call (.Attribute e nm ap) es [] p) env) Q NoE s := by
  rw [arm_eval_Call, base_plain hb]
  refine wpAny_bind (wpAny_mono h (fun a s₁ q => wpAny_bind (wpAny_standAt ?_)) fun _ _ z => z)
  have hform : methodCallForm (es.length + ([] : List Keyword).length) (backTo p (starEach es env)) (backToKw p (keywordEach [] env)) = true := by
    unfold methodCallForm
    rw [hstar]
    show (true && true && decide (es.length + 0 + 0 < 30)) = true
    exact decide_eq_true hlen
  have hpos : methodCallPos true e env ap p = pure p := by unfold methodCallPos; rw [hline, beq_self_eq_true]; rfl
  unfold methodCall
  rw [hform]
  refine wpAny_bind (wpAny_holding ?_)
  show wpAny _ A (getMethod a nm _) _ NoE s₁
  exact wpAny_mono (q _) (fun fm s₂ q => wpAny_bind (wpAny_of_eq hpos q)) fun _ _ z => z

theorem push_ok (X : LexTop T N mN) (O : TopOk T c) {a : Addr} {fd : FuncData} (D : FdAt T.h₀ a fd (bodyOf (methAt pw ci 3)) ["self", "token"]) (hclo : fd.closure = []) (hsc : fd.scope = scopeOf (methAt pw ci 3)) (hu : T.fnV "push_token" = some (.ref a))
    (e : Sat (primPush args σ) P) (hA : AOk A (k + 1)) (I : Inv T x σ) (hu' : T.fnV "push_token" = some u) (r : RepL T x args vs) (kt : Kv T x P Q) : Wp T A (call u vs) Q x := by
  cases hu.symm.trans hu'
  refine on2_rep (C := fun vs => Wp T A (call (.ref a) vs) Q x) r e fun b v t w r1 r2 e => onLoc_rep (C := fun v => Wp T A (call (.ref a) [v, w]) Q x) r1 e fun l hl e => onX_rep e fun ln lf ts hg e => ?_
  obtain ⟨h20, e⟩ := e.iteI
  refine call_code (fd_code (k := k) (args := [.loc l, t]) O.nolimit D hclo (by rw [hsc]; decide) hA I rfl ⟨_, _, rfl, ⟨rfl, hl⟩, _, _, rfl, r2, rfl⟩ fun env y C S hown => ?_)
  rw [hsc] at C
  refine lex_inst C.I hg fun o d pb ws ep sv tl tw mA R => ?_
  refine wpAny_execs_cons ?_
  rw [exec_Expr (hi := by unfold interactive; rw [C.F.kind]; rfl) (hs := rfl)]
  refine wpAny_bind (wpAny_standAt (wpAny_bind (call_attr rfl rfl (by decide) rfl (attr_self X O C.I C.F (l := l) (by kernel_rfl) R.inst (by decide) R.m4 rfl fun pl => ?_))))
  refine Calls.getMethod_list_append R.p.g rfl rfl (Calls.callWith_builtin rfl (Calls.evalArgs_plain (Calls.spliced_cons ?_)))
  refine look_ok' (x := y.to y.h (y.s.toks + 1)) O C.I.toks C.F.toks (a := t) (by kernel_rfl) fun w rw' => Calls.spliced_nil ?_
  refine call_meets PySem.F.slot_list_append ⟨_, R.p.g, rfl⟩ PySem.F.entry_list_append (PySem.F.args_list_append_2 _ _) (list_append pb ws.toArray ep w (Nat.le_trans (Nat.le_of_eq (List.size_toArray.trans R.p.q.length)) (Nat.le_trans (Nat.le_of_lt h20) (by decide)))) ⟨R.p.g, ?_⟩
  obtain ⟨e2, hself⟩ : ∃ e2, (y.h.update pb (Obj.mapSeq fun x => x.push w)).get? pb = some (lobj (ws ++ [w]) e2) := by
    rw [Heap.get?_update_self _ R.p.g rfl]; simp [lobj, Obj.mapSeq]
  obtain ⟨S3, I3⟩ := upd_push (tk := y.s.toks + 1) C.I hg R (Heap.SameBut.update ..) hself (push' := ts ++ [t]) (by rw [List.length_append]; exact le20 h20) (R.p.q.append (.one rw'.untok))
  exact wpAny_dropValue (wpAny_execs_nil (kt _ _ (y.to _ _) e ⟨S.te S3, I3, rfl⟩))
end
end Mine
namespace Mine
open PySem PyProof.Rows

/-- what must stand at the top for the stream's def -/
structure StreamTop (T : Tp) (P : Addr) (pm : Value) : Prop where
  fn : ∃ a o cd doc c, T.fnV "_law_stream" = some (.ref a) ∧ T.h₀.get? a = some o ∧ o.data = .func (Calls.docDef "_law_stream" (argsOf (defAt pw si)) (bodyOf (defAt pw si)) (scopeOf (defAt pw si)) pm cd doc) ∧ T.h₀.CodeRec cd "_law_stream" ∧ cd = .ref c ∧ W.CodeHd T.h₀ c P
  top : ∃ mg, T.h₀.Ns mainGlobals mg ∧ T.h₀.BuiltinsAt mg P
  nolimit : T.h₀.NoLimit
  objs : T.StreamObjs = StreamIs pw si

/-- the frame of the stream's def -/
noncomputable abbrev sEnv (N a : Addr) (cd : Value) : Env := envOfC "_law_stream" (scopeOf (defAt pw si)) N a cd
/-- the def within -/
noncomputable abbrev sFn (N a cl : Addr) (cd doc md : Value) (c' : Addr) (ctv : Value) : Obj := W.fnMade "_law_read" (qualnameIn (sEnv N a cd) "_law_read" "_law_read") (argsOf (readOf pw si)) (bodyOf (readOf pw si)) (scopeOf (readOf pw si)) [("left", cl)] doc md c' ctv

section
variable {T : Tp} {k : Nat} {A : Around} {x : St} {σ : Sto} {u v : Value} {P : AV × Sto → Prop} {Q : Value → Shared → Prop}

theorem s_closure {N a : Addr} {cd : Value} : closureFor (scopeOf (readOf pw si)) (sEnv N a cd) = pure [((Str.ofString "left"), N + 1)] := by
  refine (closureFor_eq (env := sEnv N a cd) (scope := scopeOf (readOf pw si)) fun x hx hk => ?_).trans (by kernel_rfl)
  have h2 : (scopeOf (readOf pw si)).names = [(Str.ofString "size", NameKind.local), (Str.ofString "left", NameKind.free)] := by kernel_rfl
  rw [h2] at hx
  rcases List.mem_cons.mp hx with rfl | hx
  · cases hk
  · rw [List.mem_singleton.mp hx]; exact ⟨N + 1, by kernel_rfl⟩

theorem onTab_rep {σ : Sto} {f : Option (AV × Sto)} {C : Prop} (h : Sat (onTab σ f) P) (k : σ.get 0 = some (.tab true) → Sat f P → C) : C := by
  unfold onTab at h
  cases hg : σ.get 0 with
  | none => rw [hg] at h; exact h.elim
  | some o =>
    rw [hg] at h
    cases o with
    | tab b => cases b with
      | true => exact k hg h
      | false => exact h.elim
    | _ => exact h.elim

theorem stream_ok {pm : Value} (X : StreamTop T T.tabA pm) {args : List AV} {vs : List Value} (e : Sat (primStream args σ) P) (hA : AOk A (k + 1)) (I : Inv T x σ) (hu : T.fnV "_law_stream" = some u) (r : RepL T x args vs) (kt : Kv T x P Q) : Wp T A (call u vs) Q x := by
  obtain ⟨a, o, cd, doc, cc, hf, ho, hdat, hcd, hcc, C⟩ := X.fn
  cases hf.symm.trans hu
  obtain ⟨mg, hmg, hb⟩ := X.top
  have hk0 : ∀ b o, T.h₀.get? b = some o → x.h.get? b = some o := fun b o e => (I.base b o e).1
  refine on1_rep (C := fun vs => Wp T A (call (.ref a) vs) Q x) r e fun b v r1 e => onLoc_rep (C := fun v => Wp T A (call (.ref a) [v]) Q x) r1 e fun l hl e => onTab_rep e fun h0 e => ?_
  obtain ⟨⟨_, hl0⟩, e⟩ := e.iteI
  obtain ⟨hP', hc0, ps, hgP, hps⟩ := I.objs _ _ h0
  cases hps rfl
  have hgP : x.h.get? T.tabA = some (W.tabObj #[]) := hP' ▸ hgP
  refine wpAny_call (call_cells_ret hA.room (hk0 _ _ ho) hdat (X.nolimit.keeps hk0) (CodeRec.keeps' hcd hk0) (binds := [("left", .ref (x.γ l))]) (by kernel_rfl) (fun y hy => ?_) (fun h₁ tk F Y => ?_) (by decide) (by decide) (by decide))
  · rw [List.mem_singleton.mp hy]
    exact .inr ⟨by kernel_rfl, by kernel_rfl⟩
  have hcell : h₁.IsCell (x.h.objs.size + 1) (some (.ref (x.γ l))) := Y.cell "left" (x.h.objs.size + 1) (by kernel_rfl)
  have hPN : T.tabA < x.h.objs.size := Heap.lt_size hgP
  have hgP1 : h₁.get? T.tabA = some (W.tabObj #[]) := F.keep _ _ hgP
  have hk1 : ∀ b o, T.h₀.get? b = some o → h₁.get? b = some o := fun b o e => F.keep _ _ (hk0 b o e)
  have hkP : ∀ b o, T.h₀.get? b = some o → b ≠ T.tabA := fun b o e q => by
    have := (I.base _ _ e).2
    rw [q, ← hP', hc0] at this
    cases this
  have hgN : mainGlobals ≠ T.tabA := by
    obtain ⟨o, es, ep, e, _⟩ := hmg
    exact hkP _ _ e
  have hbK : ∀ {h'' : Heap}, (∀ b o, b ≠ T.tabA → T.h₀.get? b = some o → h''.get? b = some o) → h''.BuiltinsAt mg T.tabA := fun {h''} q => by
    obtain ⟨bm, o, b1, b2, b3, b4, b5, r⟩ := hb
    exact ⟨bm, o, b1, b2, b3, b4, q _ _ b4 b5, r⟩
  refine wpAny_execs_cons (W.nestDef_K rfl rfl rfl (W.makeFunction_K (mg := mg) s_closure rfl (hmg.keeps hk1) hcc (C.keeps hk1) hgP1 trivial rfl hgN (hbK fun b o _ e => hk1 b o e) fun c' ctv doc' h2 tk2 hx2 hge2 hlt2 hrec2 hP2 => ?_))
  have e2 : ∀ b o, b ≠ T.tabA → h₁.get? b = some o → h2.get? b = some o := hx2
  generalize hN : x.h.objs.size = N at *
  have hN1 : N < h₁.objs.size := by obtain ⟨o, _, _, e, _⟩ := F.ns; exact Heap.lt_size e
  obtain ⟨ocl, hocl, hocld⟩ := hcell
  have hocl2 : h2.get? (N + 1) = some ocl := e2 _ _ (Nat.ne_of_gt (Nat.lt_succ_of_lt hPN)) hocl
  have hns2 := (F.ns.extBut hx2 (Nat.ne_of_gt hPN)).push (sFn N a (N + 1) cd doc' ((mg "__name__").getD .none) c' ctv)
  refine wpAny_storeName_local (by kernel_rfl) hns2 (fun h3 hns3 hs3 => ?_) (by kernel_rfl)
  have l12 : h₁.objs.size < h2.objs.size := Nat.lt_of_le_of_lt hge2 hlt2
  have hNf : N < h2.objs.size := Nat.lt_trans hN1 l12
  have hPf : T.tabA < h2.objs.size := Nat.lt_trans hPN hNf
  have e3 : ∀ b o, b ≠ N → h2.get? b = some o → h3.get? b = some o := fun b o q e => (hs3.2 b q).trans (Heap.get?_push_of_some _ e)
  have hff : h3.get? h2.objs.size = some (sFn N a (N + 1) cd doc' ((mg "__name__").getD .none) c' ctv) := (hs3.2 _ (Nat.ne_of_gt hNf)).trans (Heap.get?_push_size _ rfl)
  have hP3 : h3.get? T.tabA = some (W.tabObj (#[] ++ #[rawInt _, rawInt _, .ref c'])) := e3 _ _ (Nat.ne_of_lt hPN) hP2
  have hk3 : ∀ b o, T.h₀.get? b = some o → h3.get? b = some o := fun b o e => e3 _ _ (Nat.ne_of_lt (hN ▸ Heap.lt_size (hk0 b o e))) (e2 _ _ (hkP b o e) (hk1 b o e))
  -- the lambda
  refine wpAny_execs_cons (wpAny_Assign_Name (W.kla_eval (by kernel_rfl) (W.kla_makeFunction (mg := mg) (clos := []) (by kernel_rfl) rfl (hmg.keeps hk3) hcc (C.keeps hk3) hP3 trivial (by kernel_rfl) hgN (hbK fun b o _ e => hk3 b o e) fun c4 ctv4 h4 tk4 hx4 hge4 hlt4 hrec4 hP4 => ?_)) rfl)
  have hsz3 : h3.objs.size = h2.objs.size + 1 := by rw [hs3.1, Heap.size_push]
  refine wpAny_storeName_local (by kernel_rfl) ((hns3.extBut hx4 (Nat.ne_of_gt hPN)).push _) (fun h5 hns5 hs5 => ?_) (by kernel_rfl)
  have l23 : h2.objs.size < h3.objs.size := hsz3 ▸ Nat.lt_succ_self _
  have l34 : h3.objs.size < h4.objs.size := Nat.lt_of_le_of_lt hge4 hlt4
  have hN4 : N < h4.objs.size := Nat.lt_trans hNf (Nat.lt_trans l23 l34)
  have e5 : ∀ b o, b ≠ N → b ≠ T.tabA → h3.get? b = some o → h5.get? b = some o := fun b o q q' e => (hs5.2 b q).trans (Heap.get?_push_of_some _ (hx4 b o q' e))
  obtain ⟨la, hla, hlc, hld, hln⟩ : ∃ o, h5.get? h4.objs.size = some o ∧ o.cls = .type "function" ∧ (∃ fd, o.data = .func fd) ∧ o.dict = none := ⟨_, (hs5.2 _ (Nat.ne_of_gt hN4)).trans (Heap.get?_push_size _ rfl), rfl, ⟨_, rfl⟩, rfl⟩
  have hP5 : h5.get? T.tabA = some (W.tabObj _) := (hs5.2 _ (Nat.ne_of_lt hPN)).trans (Heap.get?_push_of_some _ hP4)
  -- the field
  refine wpAny_execs_cons (plainObj_wpAny_Assign_Attribute (wpAny_Name (wpAny_loadName_local (by kernel_rfl) (by kernel_rfl) hns5 (v := .ref h2.objs.size) (by kernel_rfl) (wpAny_Name (wpAny_loadName_local (by kernel_rfl) (by kernel_rfl) hns5 (v := .ref h4.objs.size) (by kernel_rfl) ?_) (by decide))) (by decide)) rfl)
  refine fn_store hla hlc hld hln fun h7 tk7 dx hdx hda FO hk7 hsz7 hd7 => ?_
  have lNd : N < dx := Nat.lt_of_lt_of_le (Nat.lt_trans hN4 (by rw [hs5.1, Heap.size_push]; exact Nat.lt_succ_self _)) hdx
  have hlN : N ≠ h4.objs.size := Nat.ne_of_lt hN4
  have lt3 : ∀ {b o}, h3.get? b = some o → b ≠ h4.objs.size := fun {b o} e => Nat.ne_of_lt (Nat.lt_trans (Heap.lt_size e) l34)
  have e7 : ∀ b o, N < b → h3.get? b = some o → h7.get? b = some o := fun b o q e => hk7 b o (lt3 e) (e5 b o (Nat.ne_of_gt q) (Nat.ne_of_gt (Nat.lt_trans hPN q)) e)
  have hns7 := Heap.Ns.at' hns5 fun o ho => hk7 _ _ hlN ho
  -- the return
  refine wpAny_execs_cons (wpAny_Return_some (wpAny_Name (wpAny_loadName_local (by kernel_rfl) (by kernel_rfl) hns7 (v := .ref h4.objs.size) (by kernel_rfl) ?_) (by decide)))
  have c'N : N < c' := Nat.lt_of_lt_of_le hN1 hge2
  have hkeep : ∀ b o, b ≠ x.γ 0 → x.h.get? b = some o → h7.get? b = some o := fun b o q e => by
    have hb : b < N := hN ▸ Heap.lt_size e
    have q' : b ≠ T.tabA := fun z => q (z.trans hP'.symm)
    have e3' := e3 b o (Nat.ne_of_lt hb) (e2 b o q' (F.keep b o e))
    exact hk7 b o (lt3 e3') (e5 b o (Nat.ne_of_lt hb) q' e3')
  obtain ⟨S, I'⟩ := grow (tk := tk7) I h0 hkeep ⟨_, hP'.symm ▸ hk7 _ _ (Nat.ne_of_lt (Nat.lt_trans hPN hN4)) hP5⟩
  obtain ⟨ob, hob, hobc, hobd, hobx⟩ := FO.obj
  obtain ⟨od, es, ep, hod, hodd, hodk, hodm⟩ := FO.ns
  obtain ⟨c2, oc, vs, t, hc2e, hoc, hocd, hocv⟩ := hrec2
  cases hc2e
  have col : ∀ b, N < b → fzC x b = .fz := fun b hb => if_neg (by rw [get?_ge (hN ▸ Nat.le_of_lt hb)]; exact Bool.false_ne_true)
  refine kt _ _ _ e ⟨S, I', h4.objs.size, [(h4.objs.size, ob), (dx, od), (h2.objs.size, sFn N a (N + 1) cd doc' ((mg "__name__").getD .none) c' ctv), (c', oc), (N + 1, ocl)], rfl, fun p hp => ?_, ?_, hl⟩
  · rcases List.mem_cons.mp hp with rfl | hp
    · exact ⟨col _ hN4, hob⟩
    rcases List.mem_cons.mp hp with rfl | hp
    · exact ⟨col _ lNd, hod⟩
    rcases List.mem_cons.mp hp with rfl | hp
    · exact ⟨col _ hNf, e7 _ _ hNf hff⟩
    rcases List.mem_cons.mp hp with rfl | hp
    · exact ⟨col _ c'N, e7 _ _ c'N (e3 _ _ (Nat.ne_of_gt c'N) hoc)⟩
    · rw [List.mem_singleton.mp hp]
      exact ⟨col _ (Nat.lt_succ_self _), e7 _ _ (Nat.lt_succ_self _) (e3 _ _ (Nat.succ_ne_self _) hocl2)⟩
  · rw [X.objs]
    exact ⟨dx, h2.objs.size, c', N + 1, ob, od, oc, ocl, _, _, _, _, es, ep, vs, t, rfl, hobc, hobd, hobx, hda, hodd, hodk, hodm, hocd, hocv, hocld⟩
end
end Mine
namespace Mine
open PySem PyProof.Rows

/-- the lexer while it is made -/
structure Own (T : Tp) (h0 : Heap) (a dx L : Addr) (mL mA : Str → Option Value) (h : Heap) : Prop where
  keep : ∀ b o, h0.get? b = some o → h.get? b = some o
  inst : h.Inst a T.C mA
  dict : ∃ ox, h.get? a = some ox ∧ ox.dict = some dx
  ns : h.Ns L mL
/-- what does not change meanwhile -/
structure OwnX (T : Tp) (h0 : Heap) (a dx L : Addr) : Prop where
  base : ∀ b o, T.h₀.get? b = some o → h0.get? b = some o
  na : h0.get? a = none
  nd : h0.get? dx = none
  La : L ≠ a
  Ld : L ≠ dx
/-- one name more -/
noncomputable def upm (m : Str → Option Value) (n : Str) (v : Value) : Str → Option Value := fun y => if y = n then some v else m y

section
variable {T : Tp} {k : Nat} {A : Around} {x : St} {σ : Sto} {u v : Value} {N : Addr} {mN mL mA : Str → Option Value} {h0 : Heap} {a dx L : Addr} {n : Str}

theorem Own.push {h : Heap} {o : Obj} (W : Own T h0 a dx L mL mA h) : Own T h0 a dx L mL mA (h.push o) :=
  have pk : ∀ b o', h.get? b = some o' → (h.push o).get? b = some o' := fun _ _ => Heap.get?_push_of_some _
  ⟨fun b o e => pk _ _ (W.keep b o e), W.inst.keeps pk, W.dict.elim fun o e => ⟨o, pk _ _ e.1, e.2⟩, W.ns.keeps pk⟩
theorem self_store (X : LexTop T N mN) (Z : OwnX T h0 a dx L) {h : Heap} {g : Array GenState} {d : Drawn} {t : Nat} {os : OsState} {ns : List Str} {Q : Unit → Shared → Prop}
    (W : Own T h0 a dx L mL mA h) (hn : n ∈ lexNames) (hw : Within mA ns) (hsz : ns.length ≤ sizeLine)
    (hq : ∀ h' tk', Own T h0 a dx L mL (upm mA n v) h' → (∀ b o, b ≠ a → b ≠ dx → h.get? b = some o → h'.get? b = some o) → Q () ⟨h', g, d, tk', os⟩) :
    wpAny (model T.prog T.w) A (setAttr (.ref a) n v) Q NoE ⟨h, g, d, t, os⟩ := by
  have hk : ∀ b o, T.h₀.get? b = some o → h.get? b = some o := fun b o e => W.keep b o (Z.base b o e)
  have haC : a ≠ T.C := by
    rintro rfl
    obtain ⟨nm', q, bs, sn, sub, col, dd, k0, k1, k2, k3, k5, hC0⟩ := X.cls.obj
    exact none_some Z.na (Z.base _ _ hC0)
  refine X.at hk fun _ _ _ _ _ _ _ _ _ _ _ _ hC nsC => ?_
  refine store_attr PySem.F.store_object hC nsC (X.no _ (by decide)) (X.no _ ((show ∀ n ∈ lexNames, n ∈ _ by decide) n hn)) (no_obj _ ((show ∀ n ∈ lexNames, n ∈ _ by decide) n hn)) haC W.inst (fun h' tk' I' hkk hsame => ?_) hw hsz
  obtain ⟨ox, hox, hod⟩ := W.dict
  have kk : ∀ b o, b ≠ a → b ≠ dx → h.get? b = some o → h'.get? b = some o := fun b o h1 h2 e => hkk b o h1 (fun o₀ d' e₀ ed => by
    cases hox.symm.trans e₀; cases hod.symm.trans ed; exact h2) e
  obtain ⟨o1, e1, _, _, _, dk⟩ := hsame ox hox
  exact hq h' tk' ⟨fun b o e => kk b o (fun z => none_some (z ▸ Z.na) e) (fun z => none_some (z ▸ Z.nd) e) (W.keep b o e), I', ⟨o1, e1, dk _ hod⟩, Heap.Ns.at' W.ns fun o ho => kk _ _ Z.La Z.Ld ho⟩ kk
theorem onStream_rep {Pa : AV × Sto → Prop} {w : AV} {f : Nat → Option (AV × Sto)} {C : Prop} (h : Sat (onStream w f) Pa) (k : ∀ l, w = .stream l → Sat (f l) Pa → C) : C := by
  cases w with
  | stream l => exact k l rfl h
  | _ => exact h.elim

theorem netrclex_ok (X : LexTop T N mN) {fi : Addr} {fd : FuncData} (D : FdAt T.h₀ fi fd (bodyOf (methAt pw ci 0)) ["self", "fp"]) (hsc : fd.scope = scopeOf (methAt pw ci 0)) (hi : mN "__init__" = some (.ref fi))
    {args : List AV} {vs : List Value} {P : AV × Sto → Prop} {Q : Value → Shared → Prop} (e : Sat (primLex args σ) P) (hA : AOk A (k + 2)) (I : Inv T x σ) (r : RepL T x args vs) (kt : Kv T x P Q) :
    Wp T A (call (.ref T.C) vs) Q x := by
  refine on1_rep (C := fun vs => Wp T A (call (.ref T.C) vs) Q x) r e fun b v rv e => onStream_rep e fun l hb e => ?_
  subst hb
  obtain ⟨⟨h0, g, dr, tk, os⟩, κ, γ, nx⟩ := x
  have hk0 : ∀ b o, T.h₀.get? b = some o → h0.get? b = some o := fun b o e => (I.base b o e).1
  obtain ⟨oi, hoi, hoc, hod⟩ := D.obj
  refine X.at hk0 fun _ _ _ _ _ _ _ _ _ _ _ _ hC nsC => ?_
  refine wpAny_call_obj_init PySem.F.objNew hC nsC hi (hk0 _ _ hoi) hoc fun h' a dx Mk => ?_
  have hk' : ∀ b o, T.h₀.get? b = some o → h'.get? b = some o := fun b o e => Mk.keeps _ _ (hk0 b o e)
  obtain ⟨ox, hx, hcx, hncx, hdx⟩ := Mk.inst
  have hdd := Mk.dict ox hx
  have hdlt : dx < h'.objs.size := by
    rcases hdx with ⟨hn0, _⟩ | ⟨d', hd', hne', hns'⟩
    · rw [hn0] at hdd; cases hdd
    · cases hd'.symm.trans hdd
      obtain ⟨o, _, _, e, _⟩ := hns'; exact Heap.lt_size e
  have D' := D.keeps hk'
  refine wpAny_call (codeAny_call_def (by have := hA.depth; show A.depth + 1 < _; first | lia | omega) (hk' _ _ hoi) hod (X.nolimit.keeps hk') D'.code D'.body (.of_eq (D'.binds [.ref a, v] rfl)) D'.nocell (fun y hy => D'.loc _ (List.of_mem_zip (a := y.1) (b := y.2) hy).1) (fun h1 hns hk1 => ?_) D'.co D'.gen D'.kind)
  have Z : OwnX T h0 a dx h'.objs.size := ⟨hk0, Mk.newX, Mk.newD, Nat.ne_of_gt (Heap.lt_size hx), Nat.ne_of_gt hdlt⟩
  have W1 : Own T h0 a dx h'.objs.size _ (fun _ => none) h1 := ⟨fun b o e => hk1 _ _ (Mk.keeps _ _ e), Mk.inst.keeps hk1, ⟨ox, hk1 _ _ hx, hdd⟩, hns⟩
  have hkind : ∀ y, (callEnv fd h'.objs.size fi).kindOf y = (scopeOf (methAt pw ci 0)).names.lookup y := fun y => by show fd.scope.names.lookup y = _; rw [hsc]
  have hfk : (callEnv fd h'.objs.size fi).scope.kind = .function := D.kind
  have hloc : (callEnv fd h'.objs.size fi).locals = h'.objs.size := rfl
  generalize callEnv fd h'.objs.size fi = env at *
  generalize h'.objs.size = L at *
  generalize ((A.under (.builtin "type.__call__" ⟨.ref T.C :: [v], []⟩)).deeper env) = B
  have nself : ∀ {h : Heap} {t : Nat} {mA : Str → Option Value} {p : Pos} {Q : Value → Shared → Prop} (W : Own T h0 a dx L (fun y => ((["self", "fp"] : List Str).zip [Value.ref a, v]).reverse.lookup y) mA h), Q (.ref a) ⟨h, g, dr, t, os⟩ →
      wpAny (model T.prog T.w) B (eval (.Name "self" p) env) Q NoE ⟨h, g, dr, t, os⟩ := fun W q =>
    wpAny_Name (wpAny_loadName_local hfk ((hkind _).trans (by kernel_rfl)) (hloc.symm ▸ W.ns) (by kernel_rfl) q) (by decide)
  refine wpAny_mono (E := NoE) (Q := fun fl s' => (match fl with | .ret v => v | _ => .none) = .none ∧ Q (.ref a) s') ?_ (fun fl s' q => q) fun _ _ z => z.elim
  refine wpAny_execs_cons (plainObj_wpAny_Assign_Attribute (wpAny_Constant_int (nself W1 (self_store (ns := []) X Z W1 (by decide) Within.nil (by decide) fun h2 tk2 W2 kk2 => ?_))) rfl)
  refine wpAny_execs_cons (plainObj_wpAny_Assign_Attribute (wpAny_Name (wpAny_loadName_local hfk ((hkind _).trans (by kernel_rfl)) (hloc.symm ▸ W2.ns) (v := v) (by kernel_rfl) (nself W2 (self_store (ns := ["lineno"]) X Z W2 (by decide) (Within.cons _ _ Within.nil) (by decide) fun h3 tk3 W3 kk3 => ?_))) (by decide)) rfl)
  refine wpAny_execs_cons (plainObj_wpAny_Assign_Attribute (wpAny_Constant_str (nself W3 (self_store (ns := ["instream", "lineno"]) X Z W3 (by decide) (Within.cons _ _ (Within.cons _ _ Within.nil)) (by decide) fun h4 tk4 W4 kk4 => ?_))) rfl)
  refine wpAny_execs_cons (plainObj_wpAny_Assign_Attribute (wpAny_List (wpAny_items_nil ⟨by decide, ?_⟩)) rfl)
  refine nself (W4.push (o := lobj [] 0)) (self_store (ns := ["whitespace", "instream", "lineno"]) X Z W4.push (by decide) (Within.cons _ _ (Within.cons _ _ (Within.cons _ _ Within.nil))) (by decide) fun h6 tk6 W6 kk6 => wpAny_execs_nil ⟨rfl, ?_⟩)
  have hpx : h4.objs.size ≠ a := by obtain ⟨o, e, _⟩ := W4.dict; exact Nat.ne_of_gt (Heap.lt_size e)
  have hpd : h4.objs.size ≠ dx := by
    obtain ⟨o, q1, q2, q3, q4⟩ := W4.inst
    obtain ⟨ox', r1, r2⟩ := W4.dict
    cases q1.symm.trans r1
    rcases q4 with ⟨hn0, _⟩ | ⟨d', hd', hne', hns'⟩
    · rw [r2] at hn0; cases hn0
    · cases r2.symm.trans hd'
      obtain ⟨o, _, _, e, _⟩ := hns'; exact Nat.ne_of_gt (Heap.lt_size e)
  have hpb : h6.get? h4.objs.size = some (lobj [] 0) := kk6 _ _ hpx hpd (Heap.get?_push_size _ rfl)
  have hpn : h0.get? h4.objs.size = none := by
    cases e : h0.get? h4.objs.size with
    | none => rfl
    | some o => exact absurd (Heap.lt_size (W4.keep _ _ e)) (Nat.lt_irrefl _)
  obtain ⟨o6, q1, q2, q3, q4⟩ := W6.inst
  obtain ⟨ox6, r1, r2⟩ := W6.dict
  cases q1.symm.trans r1
  rcases q4 with ⟨hn0, _⟩ | ⟨d', hd', hne', hns'⟩
  · rw [r2] at hn0; cases hn0
  cases r2.symm.trans hd'
  let κ2 : Addr → Col := fun b => if b = a ∨ b = dx ∨ b = h4.objs.size then .ob nx else κ b
  have hc2 : ∀ b o, h0.get? b = some o → κ2 b = κ b := fun b o e => if_neg fun z => z.elim (fun z => none_some Mk.newX (z ▸ e)) fun z => z.elim (fun z => none_some Mk.newD (z ▸ e)) fun z => none_some hpn (z ▸ e)
  have M : Ext ⟨⟨h0, g, dr, tk, os⟩, κ, γ, nx⟩ (St.add ⟨⟨h0, g, dr, tk, os⟩, κ, γ, nx⟩ h6 tk6 κ2 a) := .new W6.keep hc2
  have hu : upg γ nx a nx = a := upg_self
  have e1 : h6.get? (upg γ nx a nx) = some o6 := by rw [hu]; exact q1
  have e2 : dx ≠ upg γ nx a nx := by rw [hu]; exact hne'
  have e3 : h4.objs.size ≠ upg γ nx a nx := by rw [hu]; exact hpx
  have e4 : κ2 (upg γ nx a nx) = .ob nx := by rw [hu]; exact if_pos (.inl rfl)
  refine kt _ _ _ e ⟨M.step, M.invNew I rfl ⟨o6, dx, h4.objs.size, [], 0, v, ?tt, ?uu, _, ⟨e1, q2, q3, r2, e2, hns', e4, if_pos (.inr (.inl rfl)), hpd, e3, ?m1, ?m2, M.rep rv, ?m3, ?m4, fun y hy => ?m5, if_pos (.inr (.inr rfl)), hpb, Nat.zero_le _, rfl⟩⟩, ?_⟩
  case m1 => unfold upm; rw [if_neg (by decide), if_neg (by decide), if_neg (by decide), if_pos rfl]
  case m2 => unfold upm; rw [if_neg (by decide), if_neg (by decide), if_pos rfl]
  case m3 =>
    unfold upm
    rw [if_neg (by decide), if_pos rfl]
    exact congrArg (fun z => some (Value.str z _)) (by kernel_rfl)
  case m4 => unfold upm; rw [if_pos rfl]
  case m5 =>
    simp only [lexNames, List.mem_cons, List.not_mem_nil, or_false, not_or] at hy
    unfold upm
    rw [if_neg hy.2.2.2, if_neg hy.2.2.1, if_neg hy.2.1, if_neg hy.1]
  exact I.nx ▸ ⟨congrArg Value.ref hu.symm, Nat.lt_succ_self _⟩
end
end Mine
namespace Mine
open PySem PyProof.Rows

/-- what the closure gives -/
noncomputable def leftX (σ : Sto) (lf : Nat) (xs : List AV) : Option (AV × Sto) := match xs with
  | [] => some (.str ⟨#[]⟩, σ)
  | x :: xs => some (x, σ.upd lf (.list xs))

/-- an empty list is made -/
noncomputable def nilSt (y : St) : St := y.re (y.h.push (lobj [] 0)) y.s.toks (upc y.κ y.h.objs.size .fz)

section
variable {T : Tp} {k : Nat} {A : Around} {x : St} {σ : Sto} {u v : Value} {lf : Nat} {xs : List AV} {P : AV × Sto → Prop} {Q : Value → Shared → Prop}

theorem mapO_nil {α β : Type} {f : α → Option β} {x : α} {xs : List α} {ds : List β} (h : mapO f (x :: xs) = some ds) : ∃ d ds', ds = d :: ds' := by
  have h : Sat (mapO f (x :: xs)) fun r => r = ds := by rw [h]; exact rfl
  obtain ⟨d, _, h⟩ := h.bindI.mk'
  obtain ⟨ds', _, h⟩ := h.bindI.mk'
  exact ⟨d, ds', h.symm⟩
theorem eq_nil (h : σ.get lf = some (.list xs)) (hs : (toPys 7 xs).isSome = true) : eqA σ (.loc lf) (.list []) = some xs.isEmpty := by
  obtain ⟨ds, hd⟩ := Option.isSome_iff_exists.mp hs
  have hd : mapO (toPy 7) xs = some ds := hd
  show ((toPy 8 (shallow σ (.loc lf))).bind fun a => some (PyData.eqv a (.list []))) = _
  rw [show shallow σ (.loc lf) = .list xs by show (match σ.get lf with | some (.list xs) => AV.list xs | _ => _) = _; rw [h],
    show toPy 8 (.list xs) = some (.list ds) by show ((mapO (toPy 7) xs).bind fun ds => some (PyData.list ds)) = _; rw [hd]; rfl]
  cases xs with
  | nil => injection hd with hd; subst hd; rfl
  | cons x xs => obtain ⟨d, ds', rfl⟩ := mapO_nil hd; rfl

/-- the def within, called -/
theorem lawread_ok (hA : AOk A (k + 1)) (I : Inv T x σ) (hlim : T.h₀.NoLimit) {f c' cl : Addr} {oc ocl : Obj} {qual : Str} {doc pm ctv : Value}
    (hf : x.h.get? f = some (W.fnMade "_law_read" qual (argsOf (readOf pw si)) (bodyOf (readOf pw si)) (scopeOf (readOf pw si)) [("left", cl)] doc pm c' ctv)) (hc : x.h.get? c' = some oc) {vs : Array Value} {t' : Tok} (hcd : oc.data = .fields vs) (hcq : vs[1]? = some (.str qual t'))
    (hcl : x.h.get? cl = some ocl) (hcld : ocl.data = .cell (some (.ref (x.γ lf)))) (hlf : lf < x.n) {t : Tok} (hxs : σ.get lf = some (.list xs)) (hpy : (toPys 7 xs).isSome = true) (h : Sat (leftX σ lf xs) P) (kt : Kv T x P Q) :
    Wp T A (call (.ref f) [.int 1 t]) Q x := by
  refine wpAny_call (codeAny_call_def (binds := [("size", .int 1 t)]) hA.room hf rfl (hlim.keeps fun b o e => (I.base b o e).1) ⟨c', oc, vs, t', rfl, hc, hcd, hcq⟩ rfl (.of_eq (by kernel_rfl)) (show ∀ x ∈ (scopeOf (readOf pw si)).names, x.2 ≠ .cell by decide) (fun x hx => ?_) (fun h₁ hns hk => ?_) (by kernel_rfl) (by kernel_rfl) (by kernel_rfl))
  · rw [List.mem_singleton.mp hx]; kernel_rfl
  generalize hE : callEnv (W.fnX "_law_read" qual (argsOf (readOf pw si)) (bodyOf (readOf pw si)) (scopeOf (readOf pw si)) [("left", cl)] Value.none Value.none doc pm none (Value.ref c') ctv) x.h.objs.size f = env
  have ek : env.scope.kind = .function := by rw [← hE]; kernel_rfl
  have ekd : ∀ y, env.kindOf y = (scopeOf (readOf pw si)).names.lookup y := fun y => by rw [← hE]; rfl
  have eloc : env.locals = x.h.objs.size := by rw [← hE]; rfl
  have ecel : env.cells = [(Str.ofString "left", cl)] := by rw [← hE]; rfl
  refine wpAny_mono (E := NoE) (Q := fun fl s' => Q (fval fl) s') ?_ (fun fl s' q => by cases fl <;> exact q) fun _ _ z => z.elim
  have hB := hA.deeper env
  generalize A.deeper env = B at *
  refine wpAny_execs_cons (wpAny_Return_some (wpAny_IfExp (wpAny_isTrue_BoolOp ?_)))
  rw [arm_allTrue_cons]
  refine wpAny_bind (wpAny_isTrue_Compare1 (wpAny_Name (wpAny_loadName_local ek ((ekd _).trans (by kernel_rfl)) (eloc ▸ hns) (v := .int 1 t) (by kernel_rfl) (wpAny_Constant_int (PyProof.Rows.eq_int (wpAny_truthy_bool ?_)))) (by decide)) rfl)
  have M : Ext x (x.re h₁ (x.s.toks + 1 + 1) (frC x)) := .frame hk
  show Wp T B _ _ (x.re h₁ (x.s.toks + 1 + 1) (frC x))
  have hn : (x.re h₁ (x.s.toks + 1 + 1) (frC x)).n = x.n := rfl
  generalize x.re h₁ (x.s.toks + 1 + 1) (frC x) = y at *
  have I1 : Inv T y σ := M.inv I hn
  have hcell : y.h.IsCell cl (some (.ref (y.γ lf))) := ⟨ocl, M.keep _ _ hcl fun h => h, M.gam lf hlf ▸ hcld⟩
  have hlf : lf < y.n := hn ▸ hlf
  show Wp T B (allTrue .And _ env) _ y
  rw [arm_allTrue_cons]
  refine wpAny_bind (wpAny_isTrue_Compare1 (wpAny_Name (wpAny_loadName_free ek ((ekd _).trans (by kernel_rfl)) (by rw [ecel]; kernel_rfl) hcell (wpAny_List (wpAny_items_nil ⟨by decide, ?_⟩))) (by decide)) rfl)
  have M2 : Ext y (nilSt y) := .push
  have I2 := M2.inv I1 rfl
  show Wp T B _ _ (nilSt y)
  have re : Rep T (nilSt y) (.list []) (.ref y.h.objs.size) := ⟨_, [], 0, rfl, upc_self, Heap.get?_push_size _ rfl, Nat.zero_le _, rfl⟩
  have hcell2 : (nilSt y).h.IsCell cl (some (.ref ((nilSt y).γ lf))) := hcell.keeps fun b o e => M2.keep b o e fun h => h
  have hlf : lf < (nilSt y).n := hlf
  have S : Step Pe x (nilSt y) := M.step.te M2.step
  refine ne_ok (a := .loc lf) (b := .list []) (Pb := fun b => b = xs.isEmpty) hB I2 (by rw [eq_nil hxs hpy]; exact rfl) ⟨rfl, hlf⟩ re fun b hb => wpAny_truthy_bool ?_
  subst hb
  generalize nilSt y = z at *
  cases xs with
  | nil => exact wpAny_pure (wpAny_Constant_str (kt _ _ (z.to _ _) h ⟨S.te Ext.toks.step, I2.toks, _, rfl⟩))
  | cons w xs =>
    show Wp T B (allTrue .And [] env) _ z
    rw [arm_allTrue_nil]
    refine wpAny_pure ?_
    show Wp T B (eval _ env) _ z
    refine call_attr rfl rfl (by decide) rfl (wpAny_Name (wpAny_loadName_free ek ((ekd _).trans (by kernel_rfl)) (by rw [ecel]; kernel_rfl) hcell2 fun pl => ?_) (by decide))
    refine onL_rep I2 (f := fun _ => some ()) (Pa := fun _ => True) (by rw [onL, hxs]; trivial) fun xs' ws ep hg R _ => ?_
    refine PyProof.Rows.getMethod_list_of PySem.F.slot_list_pop PySem.F.type_list_pop (lobj_list R.g) ⟨_, R.g, rfl⟩ ?_
    refine Calls.callWith_builtin rfl (Calls.evalArgs_plain (Calls.spliced_cons (wpAny_Constant_int (k := 0) (pos := ⟨0, 0, 0, 0⟩) (Calls.spliced_nil ?_))))
    exact pop_ok (x := z.to z.h (z.s.toks + 1)) I2.toks hlf (by rw [onL, hxs]; exact h) fun r u y p e => kt r u y p ⟨S.te (Ext.toks.step.te e.S), e.I, e.R⟩
end
end Mine
namespace Mine
open PySem PyProof.Rows

section
variable {T : Tp} {c : Cfg} {k : Nat} {A : Around} {env : Env} {sc : Scope} {x : St} {σ : Sto} {u v : Value} {l lf : Nat} {ln : Int} {ts : List AV} {P : AV × Sto → Prop} {Q : Value → Shared → Prop} {N : Addr} {mN : Str → Option Value}

theorem p_then {b : Bool} {p q : Prop} (h : b = true) (k : p) : if b = true then p else q := by rw [if_pos h]; exact k
theorem p_else {b : Bool} {p q : Prop} (h : b = false) (k : q) : if b = true then p else q := by rw [h]; exact k
theorem lex_setline (X : LexTop T N mN) (I : Inv T x σ) {ln' : Int} {t' : Tok} (hg : σ.get l = some (.lexer ln lf ts)) {Q : Unit → Shared → Prop} (kt : ∀ h' tk', Step Pe x (x.to h' tk') → Inv T (x.to h' tk') (σ.upd l (.lexer ln' lf ts)) → Q () (x.to h' tk').s) :
    Wp T A (setAttr (.ref (x.γ l)) "lineno" (.int ln' t')) Q x := by
  refine lex_inst I hg fun o d pb vs ep sv t u mA R => ?_
  have hk : ∀ b o, T.h₀.get? b = some o → x.h.get? b = some o := fun b o e => (I.base b o e).1
  refine X.at hk fun _ _ _ _ _ _ _ _ _ _ _ _ hC ns => ?_
  have hxC : x.γ l ≠ T.C := by
    intro q
    obtain ⟨nm', q', bs, sn, sub, col, dd, k0, k1, k2, k3, k5, hC0⟩ := X.cls.obj
    have := (I.base _ _ hC0).2
    rw [← q, R.c1] at this; cases this
  refine store_attr (ns := lexNames) PySem.F.store_object hC ns (X.no _ (by decide)) (X.no _ (by decide)) (no_obj _ (by decide)) hxC R.inst (fun h' tk' I' hkk hsame => ?_) (fun y hy => Decidable.byContradiction fun q => hy (R.m5 y q)) (by decide)
  have kk : ∀ b o, b ≠ x.γ l → b ≠ d → x.h.get? b = some o → h'.get? b = some o := fun b o' h1 h2 e => hkk b o' h1 (fun o₀ d' e₀ ed => by
    cases R.g.symm.trans e₀; cases R.od.symm.trans ed; exact h2) e
  obtain ⟨o1, e1, ec, edt, _, dk⟩ := hsame o R.g
  obtain ⟨o2, q1, q2, q3, q4⟩ := I'
  cases e1.symm.trans q1
  rcases q4 with ⟨hn0, _⟩ | ⟨d', hd', hne', hns'⟩
  · rw [dk _ R.od] at hn0; cases hn0
  cases (dk _ R.od).symm.trans hd'
  have M : But (fun a => x.κ a = .ob l) x (x.to h' tk') := .upd fun a o ne e => kk a o (fun z => ne (z ▸ R.c1)) (fun z => ne (z ▸ R.c2)) e
  have S : Step Pe x (x.to h' tk') := M.step (fun a e => congrArg Col.isOb e) fun a o' _ e => by
    by_cases ha : a = x.γ l
    · exact ⟨_, ha ▸ e1⟩
    · by_cases hb : a = d
      · obtain ⟨o, _, _, e, _⟩ := hns'; exact ⟨o, hb ▸ e⟩
      · exact ⟨_, kk a _ ha hb e⟩
  refine kt h' tk' S (upd_inv M I (I.lt _ _ hg) rfl ⟨o1, d, pb, vs, ep, sv, t', u, _, e1, q2, q3, dk _ R.od, R.ne, hns', R.c1, R.c2, R.pd, R.pl, ?_, ?_, R.r1.step S, ?_, ?_, fun y hy => ?_, R.p.c, kk _ _ R.pl R.pd R.p.g, R.p.b, R.p.q.step S⟩)
  · rw [if_pos rfl]
  · rw [if_neg (by decide)]; exact R.m2
  · rw [if_neg (by decide)]; exact R.m3
  · rw [if_neg (by decide)]; exact R.m4
  · rw [if_neg (fun e => hy (by rw [e]; decide))]; exact R.m5 y hy

theorem upd_same {o : AObj} (h : σ.get l = some o) : σ.upd l o = σ := by
  cases σ with
  | mk g n =>
    refine congrArg (Sto.mk · n) (funext fun k => ?_)
    by_cases q : k = l
    · rw [if_pos q, q]; exact h.symm
    · exact if_neg q
/-- what a lexer's line is behind a sign -/
noncomputable def lnX (s : Str) (ln : Int) : Int := if s = ⟨#[10]⟩ then ln + 1 else ln
/-- what is read -/
theorem read_split {xs : List AV} (hg : σ.get l = some (.lexer ln lf ts)) (hxs : σ.get lf = some (.list xs)) (e : Sat (readX σ l ln lf ts xs) P) :
    ∃ s σ1, leftX σ lf xs = some (.str s, σ1) ∧ (toPys 7 xs).isSome = true ∧ P (.str s, σ1.upd l (.lexer (lnX s ln) lf ts)) ∧ σ1.get l = some (.lexer ln lf ts) := by
  cases xs with
  | nil => exact ⟨_, σ, rfl, rfl, by rw [lnX, if_neg (by decide), upd_same hg]; exact e, hg⟩
  | cons w xs =>
    cases w with
    | str s =>
      obtain ⟨h, e⟩ := Sat.iteI e
      exact ⟨s, _, rfl, h, e, (if_neg fun q => by rw [q, hxs] at hg; cases hg).trans hg⟩
    | _ => exact e.elim

noncomputable abbrev rsc : Scope := scopeOf (methAt pw ci 1)
theorem read_code (X : LexTop T N mN) (O : TopOk T c) (hSO : T.StreamObjs = StreamIs pw si) {a : Addr} {fd : FuncData} (D : FdAt T.h₀ a fd (bodyOf (methAt pw ci 1)) ["self"]) (hclo : fd.closure = []) (hsc : fd.scope = rsc)
    {args : List AV} {vs : List Value} (e : Sat (primRead args σ) P) (hA : AOk A (k + 2)) (I : Inv T x σ) (r : RepL T x args vs) (kt : Kv T x P Q) : codeAny (model T.prog T.w) A (.call (.ref a) ⟨vs, []⟩) (CallR Q) x.s := by
  refine on1_rep (C := fun vs => codeAny (model T.prog T.w) A (.call (.ref a) ⟨vs, []⟩) (CallR Q) x.s) r e fun b v r1 e => onLoc_rep (C := fun v => codeAny (model T.prog T.w) A (.call (.ref a) ⟨[v], []⟩) (CallR Q) x.s) r1 e fun l hl e => onX_rep e fun ln lf ts hg e => onL_rep I e fun xs _ _ hxs _ e => ?_
  obtain ⟨ch, σ1, hx, hpy, e, hg1⟩ := read_split hg hxs e
  refine fd_code (k := k + 1) (args := [.loc l]) O.nolimit D hclo (by rw [hsc]; decide) hA I rfl ⟨_, _, rfl, ⟨rfl, hl⟩, rfl⟩ fun env y C S hown => ?_
  rw [hsc] at C hown
  refine lex_inst C.I hg fun o d pb ws ep sv tl tw mA R => ?_
  obtain ⟨a', objs, rfl, Z⟩ := R.r1
  obtain ⟨d', f', c', cl, ob, od, oc, ocl, qual, doc, pm, ctv, es, epd, ovs, t0, Z2⟩ := hSO ▸ Z.z
  have hob := Z.o
  rw [Z2.e] at hob
  have o1 := hob _ (.head _)
  have o2 := hob _ (.tail _ (.head _))
  have o3 := hob _ (.tail _ (.tail _ (.head _)))
  have o4 := hob _ (.tail _ (.tail _ (.tail _ (.head _))))
  have o5 := hob _ (.tail _ (.tail _ (.tail _ (.tail _ (.head _)))))
  have FO : FnObj y.h a' d' (fun y => if y = "read" then some (.ref f') else none) := ⟨⟨ob, o1.2, Z2.bc, Z2.bf, Z2.bd⟩, Z2.ne, ⟨od, es, epd, o2.2, Z2.dd, Z2.dk, Z2.dm⟩⟩
  refine wpAny_execs_cons (wpAny_Assign_Name (call_attr rfl rfl (by decide) rfl (attr_self X O C.I C.F (l := l) (by kernel_rfl) R.inst (by decide) R.m2 rfl fun pl => fn_method FO (if_pos rfl) ?_)) rfl)
  refine Calls.callWith_function (o := W.fnMade "_law_read" qual (argsOf (readOf pw si)) (bodyOf (readOf pw si)) (scopeOf (readOf pw si)) [("left", cl)] doc pm c' ctv) (fd := W.fnX "_law_read" qual (argsOf (readOf pw si)) (bodyOf (readOf pw si)) (scopeOf (readOf pw si)) [("left", cl)] .none .none doc pm none (.ref c') ctv) (Calls.evalArgs_plain (Calls.spliced_cons ?_))
  refine wpAny_Constant_int (k := 0) (pos := ⟨0, 0, 0, 0⟩) (Calls.spliced_nil ⟨⟨o3.2, rfl⟩, ?_⟩)
  refine lawread_ok (x := y.to y.h (y.s.toks + 1 + 1 + 1)) (k := k) (P := fun r => r = (.str ch, σ1)) C.A C.I.toks O.nolimit o3.2 o4.2 Z2.cd Z2.cq o5.2 Z2.ll Z.l hxs hpy (by rw [hx]; exact rfl) fun r u z hr E => ?_
  subst hr
  have S2 : Step Pe y z := Ext.toks.step.te E.S
  refine bind_ok (sc := rsc) E.I (C.F.step S2) (n := "ch") (.inl (by kernel_rfl)) E.R fun w S3 I3 F3 _ => ?_
  have S03 : Step (Ps (Owns env rsc)) x w := (S.te S2).ps.ts S3
  have lookch : ∀ {m : Fm}, look c rsc (m.set "ch" (.str ch)) "ch" = some (.str ch) := by intro m; kernel_rfl
  -- the end: the sign is handed back
  have fin : ∀ (w : St) (σ4 : Sto) p p', Step (Ps (Owns env rsc)) x w → Inv T w σ4 → FrOk T env rsc (Fm.set (fun x => ((["self"] : List Str).zip [AV.loc l]).lookup x) "ch" (.str ch)) w → P (.str ch, σ4) →
      Wp T (A.deeper env) (execs [.Return (some (.Name "ch" p)) p'] env) (fun fl s' => Q (fval fl) s') w := fun w σ4 p p' S4 I4 F4 h =>
    wpAny_execs_cons (wpAny_Return_some (look_ok' O I4 F4 lookch fun u ru => kt _ _ w h ⟨S4.pe hown, I4, ru⟩))
  refine wpAny_execs_cons (wpAny_If (wpAny_isTrue_Compare1 (look_ok' O I3 F3 lookch fun w' rw' => rw'.elim fun t3 e3 => e3 ▸ wpAny_Constant_str (PyProof.Rows.eq_str (wpAny_truthy_bool ?_))) rfl))
  by_cases hx10 : ch = ⟨#[10]⟩
  · rw [lnX, if_pos hx10] at e
    refine p_then (beq_iff_eq.mpr (hx10.trans (b := ⟨#[10]⟩) (by decide))) ?_
    refine wpAny_execs_cons (wpAny_AugAssign_AttributeAny (look_ok' (x := w.to w.h (w.s.toks + 1)) O I3.toks F3.toks (a := .loc l) (by kernel_rfl) fun w' rw' => ?_))
    rw [rw'.1]
    refine lex_attr X I3.toks (a := .loc l) (Pa := fun r => r = .int ln) ⟨rfl, rw'.2⟩ (by show Sat (match σ1.get l with | some (.lexer i _ _) => _ | _ => _) _; rw [hg1]; exact rfl) fun r u tk4 hr rr => ?_
    subst hr
    obtain ⟨t4, rfl⟩ := rr
    refine wpAny_Constant_int (PyProof.Rows.iadd_int ?_)
    exact lex_setline X (x := w.to w.h _) I3.toks hg1 fun h' tk' S4 I4 => wpAny_execs_nil (fin _ _ _ _ ((S03.ts Ext.toks.step).ts S4.ps) I4 (F3.toks.step S4) e)
  · rw [lnX, if_neg hx10, upd_same hg1] at e
    refine p_else (b := ch == Str.ofString "\n") (beq_false_of_ne fun q => hx10 (q.trans (by decide))) ?_
    exact wpAny_execs_nil (fin _ σ1 _ _ (S03.ts Ext.toks.step) I3.toks F3.toks e)
end
end Mine
namespace Mine
open PySem PyProof.Rows

noncomputable def chars (cs : List Nat) : List AV := cs.map fun c => .str ⟨#[c]⟩
/-- the lexer stands with this line, this text left -/
noncomputable def lexAt (σ : Sto) (l lf : Nat) (ln : Int) (cs : List Nat) : Sto := (σ.upd lf (.list (chars cs))).upd l (.lexer ln lf [])
noncomputable def nl (c : Nat) (ln : Int) : Int := if c = 10 then ln + 1 else ln

section
variable {σ : Sto} {l lf : Nat} {ln : Int} {cs : List Nat} {c : Nat} {P : AV × Sto → Prop}
theorem lexAt_get : (lexAt σ l lf ln cs).get l = some (.lexer ln lf []) := if_pos rfl
theorem lexAt_left (h : lf ≠ l) : (lexAt σ l lf ln cs).get lf = some (.list (chars cs)) := (if_neg h).trans (if_pos rfl)
theorem upd_swap {o o' o'' : AObj} (h : lf ≠ l) : ((((σ.upd lf o).upd l o').upd lf o'').upd l o') = (σ.upd lf o'').upd l o' := by
  refine congrArg (Sto.mk · σ.nx) (funext fun k => ?_)
  show (if k = l then _ else if k = lf then _ else if k = l then _ else if k = lf then _ else _) = if k = l then _ else if k = lf then _ else _
  by_cases h1 : k = l
  · rw [if_pos h1, if_pos h1]
  · rw [if_neg h1, if_neg h1, if_neg h1]
    by_cases h2 : k = lf
    · rw [if_pos h2, if_pos h2]
    · rw [if_neg h2, if_neg h2, if_neg h2]
theorem upd_twice {o o' : AObj} : (σ.upd l o).upd l o' = σ.upd l o' := by
  refine congrArg (Sto.mk · σ.nx) (funext fun k => ?_)
  show (if k = l then _ else if k = l then _ else _) = if k = l then _ else _
  by_cases h1 : k = l
  · rw [if_pos h1, if_pos h1]
  · rw [if_neg h1, if_neg h1, if_neg h1]
theorem chars_py {cs : List Nat} (h : ∀ c ∈ cs, c < 0x110000) : (toPys 7 (chars cs)).isSome = true := by
  induction cs with
  | nil => rfl
  | cons c cs ih =>
    obtain ⟨ds, hd⟩ := Option.isSome_iff_exists.mp (ih fun c hc => h c (.tail _ hc))
    have hs : PyData.strOk ⟨#[c]⟩ = true := by simp [PyData.strOk, h c (.head _)]
    show ((toPy 7 (.str ⟨#[c]⟩)).bind fun d => (toPys 7 (chars cs)).bind fun ds => some (d :: ds)).isSome = true
    rw [show toPy 7 (.str ⟨#[c]⟩) = some (.str ⟨#[c]⟩) from if_pos hs, hd]; rfl
theorem primRead_eq {s : Sto} : primRead [.loc l] s = onX s.get l fun ln lf ts => onL s.get lf fun xs => readX s l ln lf ts xs := rfl
theorem primRead_cons (h : lf ≠ l) (hc : ∀ x ∈ c :: cs, x < 0x110000) (p : P (.str ⟨#[c]⟩, lexAt σ l lf (nl c ln) cs)) : Sat (primRead [.loc l] (lexAt σ l lf ln (c :: cs))) P := by
  rw [primRead_eq, onX, lexAt_get]
  show Sat (onL (lexAt σ l lf ln (c :: cs)).get lf fun xs => readX (lexAt σ l lf ln (c :: cs)) l ln lf [] xs) P
  rw [onL, lexAt_left h]
  show Sat (if (toPys 7 (chars (c :: cs))).isSome = true then some (AV.str ⟨#[c]⟩, ((lexAt σ l lf ln (c :: cs)).upd lf (.list (chars cs))).upd l (.lexer (if (⟨#[c]⟩ : Str) = ⟨#[10]⟩ then ln + 1 else ln) lf [])) else none) P
  rw [if_pos (chars_py hc)]
  have e : (if (⟨#[c]⟩ : Str) = ⟨#[10]⟩ then ln + 1 else ln) = nl c ln := by
    by_cases q : c = 10
    · rw [q]; rfl
    · rw [nl, if_neg q, if_neg fun z => q (by injection z with z; injection z with z; injection z)]
  rw [e]
  have e2 : ((lexAt σ l lf ln (c :: cs)).upd lf (.list (chars cs))).upd l (.lexer (nl c ln) lf []) = lexAt σ l lf (nl c ln) cs := by
    refine congrArg (Sto.mk · σ.nx) (funext fun k => ?_)
    show (if k = l then _ else if k = lf then _ else if k = l then _ else if k = lf then _ else _) = if k = l then _ else if k = lf then _ else _
    by_cases h1 : k = l
    · rw [if_pos h1, if_pos h1]
    · rw [if_neg h1, if_neg h1, if_neg h1]
      by_cases h2 : k = lf
      · rw [if_pos h2, if_pos h2]
      · rw [if_neg h2, if_neg h2, if_neg h2]
  rw [e2]; exact p
theorem primRead_nil (h : lf ≠ l) (p : P (.str ⟨#[]⟩, lexAt σ l lf ln [])) : Sat (primRead [.loc l] (lexAt σ l lf ln [])) P := by
  rw [primRead_eq, onX, lexAt_get]
  show Sat (onL (lexAt σ l lf ln []).get lf fun xs => readX (lexAt σ l lf ln []) l ln lf [] xs) P
  rw [onL, lexAt_left h]
  exact p
end

noncomputable abbrev sc2 : Scope := scopeOf (methAt pw ci 2)

/-- what stays within get_token -/
structure Gx where
  T : Tp
  env : Env
  x₀ : St
  σ₀ : Sto
  l : Nat
  lf : Nat
  it : Addr
  bm : Addr
  f : Addr
  tt : Tok

noncomputable def Gx.itO (G : Gx) (live : Bool) : Obj := if live then citObj (.ref G.bm) G.tt else citEnd

/-- what stands within get_token -/
structure GSt (G : Gx) (ln : Int) (cs tok : List Nat) (chv : Option Str) (live : Bool) (x : St) (m : Fm) : Prop where
  S : Step (Ps (Owns G.env sc2)) G.x₀ x
  I : Inv G.T x (lexAt G.σ₀ G.l G.lf ln cs)
  F : FrOk G.T G.env sc2 m x
  self : m "self" = some (.loc G.l)
  token : m "token" = some (.str ⟨tok.toArray⟩)
  fiter : m "fiter" = some (.opq G.it)
  ch : ∀ y, chv = some y → m "ch" = some (.str y)
  cit : x.κ G.it = .tmp
  cbm : x.κ G.bm = .tmp
  oit : x.h.get? G.it = some (G.itO live)
  obm : x.h.get? G.bm = some (W.methodObj (.ref G.f) (.ref (G.x₀.γ G.l)))
  lt : ∀ x ∈ cs, x < 0x110000
  ne : G.lf ≠ G.l
  ll : G.l < G.x₀.n
  nit : G.x₀.h.get? G.it = none
  bmit : G.bm ≠ G.it

/-- what reads a sign -/
structure ReadFn (T : Tp) (f : Addr) : Prop where
  v : T.fnV "_read_char" = some (.ref f)
  obj : ∃ o, T.h₀.get? f = some o ∧ ∃ fd, o.data = .func fd
  code : ∀ {A : Around} {x : St} {σ : Sto} {P : AV × Sto → Prop} {Q : Value → Shared → Prop} {vs : List Value} {args : List AV}, Sat (primRead args σ) P → AOk A 2 → Inv T x σ → RepL T x args vs → Kv T x P Q →
    codeAny (model T.prog T.w) A (.call (.ref f) ⟨vs, []⟩) (CallR Q) x.s

theorem AOk.in1 {A : Around} {k : Nat} (h : AOk A (k + 1)) : AOk A.in1 k := ⟨h.handled, by have := h.depth; show A.depth + k < _; first | lia | omega, by have := h.units; show A.units + 1 + 100 * k + 300 < _; first | lia | omega⟩

section
variable {G : Gx} {c : Cfg} {A : Around} {x y : St} {m : Fm} {ln ln' : Int} {cs cs' tok tok' : List Nat} {chv chv' : Option Str} {live : Bool} {N : Addr} {mN : Str → Option Value}

theorem look_self {m : Fm} : look c sc2 m "self" = m "self" := by kernel_rfl
theorem look_token {m : Fm} : look c sc2 m "token" = m "token" := by kernel_rfl
theorem look_fiter {m : Fm} : look c sc2 m "fiter" = m "fiter" := by kernel_rfl
theorem look_ch {m : Fm} : look c sc2 m "ch" = m "ch" := by kernel_rfl

theorem GSt.gl (H : GSt G ln cs tok chv live x m) : x.γ G.l = G.x₀.γ G.l := H.S.gam G.l H.ll
theorem GSt.lx (H : GSt G ln cs tok chv live x m) : G.l < x.n := Nat.lt_of_lt_of_le H.ll H.S.nx
theorem GSt.chars (H : GSt G ln cs tok chv live x m) (h : ∀ y, chv' = some y → chv = some y) : GSt G ln cs tok chv' live x m := { H with ch := fun y hy => H.ch y (h y hy) }
/-- a step of an expression -/
theorem GSt.exp (H : GSt G ln cs tok chv live x m) (S : Step Pe x y) (I : Inv G.T y (lexAt G.σ₀ G.l G.lf ln' cs')) (h : ∀ x ∈ cs', x < 0x110000) : GSt G ln' cs' tok chv live y m :=
  { H with
    S := H.S.ts S.ps, I := I, F := H.F.step S
    cit := (S.col _ _ H.oit (ob_tmp H.cit)).trans H.cit, cbm := (S.col _ _ H.obm (ob_tmp H.cbm)).trans H.cbm
    oit := S.keep _ _ H.oit (no_pe (ob_tmp H.cit)), obm := S.keep _ _ H.obm (no_pe (ob_tmp H.cbm)), lt := h }
theorem GSt.toks {tk : Nat} (H : GSt G ln cs tok chv live x m) : GSt G ln cs tok chv live (x.to x.h tk) m := H.exp Ext.toks.step H.I.toks H.lt
/-- a name is bound -/
theorem GSt.bind {n : Str} {v : AV} (H : GSt G ln cs tok chv live x m) (S : Step (Ps (Owns G.env sc2)) x y) (I : Inv G.T y (lexAt G.σ₀ G.l G.lf ln cs)) (F : FrOk G.T G.env sc2 (m.set n v) y) (k : y.κ = x.κ)
    (h1 : (m.set n v) "self" = some (.loc G.l)) (h2 : (m.set n v) "token" = some (.str ⟨tok'.toArray⟩)) (h3 : (m.set n v) "fiter" = some (.opq G.it)) (h4 : ∀ y, chv' = some y → (m.set n v) "ch" = some (.str y)) :
    GSt G ln cs tok' chv' live y (m.set n v) :=
  have hw {b : Addr} (hb : x.κ b = .tmp) : ¬ Ps (Owns G.env sc2) b (x.κ b) := fun q => q.elim (no_pe (a := b) (ob_tmp hb)) fun q => Owns.tmp H.F q.1 hb
  { H with S := H.S.ts S, I := I, F := F, self := h1, token := h2, fiter := h3, ch := h4, cit := k ▸ H.cit, cbm := k ▸ H.cbm, oit := S.keep _ _ H.oit (hw H.cit), obm := S.keep _ _ H.obm (hw H.cbm) }

theorem g_lookch (O : TopOk G.T c) {y : Str} (H : GSt G ln cs tok (some y) live x m) {p : Pos} {Q : Value → Shared → Prop} (h : ∀ t, Q (.str y t) x.s) : Wp G.T A (eval (.Name "ch" p) G.env) Q x :=
  look_ok' O H.I H.F (look_ch.trans (H.ch y rfl)) fun u r => r.elim fun t e => e ▸ h t
/-- a test against a sign -/
theorem g_eq (O : TopOk G.T c) {y z : Str} (H : GSt G ln cs tok (some y) live x m) {p p' p'' : Pos} {k' : Nat} {w : Sem Value} {Q : Bool → Shared → Prop} (h : ∀ z', GSt G ln cs tok (some y) live z' m → Q (y == z) z'.s) :
    Wp G.T A (isTrue (.Compare (.Name "ch" p) [.Eq] [.Constant (.str z) k' p'] p'') G.env w) Q x :=
  wpAny_isTrue_Compare1 (g_lookch O H fun t => wpAny_Constant_str (PyProof.Rows.eq_str (wpAny_truthy_bool (h _ H.toks)))) rfl
theorem ws_sub {ch : Nat} : subStr ⟨#[ch]⟩ blanks = some (wsB ch) := by
  show some (List.contains [10, 9, 13, 32] ch) = _
  unfold wsB
  rw [List.contains_cons, List.contains_cons, List.contains_cons, List.contains_cons, List.contains_nil, Bool.or_false, Bool.or_assoc, Bool.or_assoc]
/-- the test for a blank -/
theorem g_in (X : LexTop G.T N mN) (O : TopOk G.T c) {ch : Nat} (H : GSt G ln cs tok (some ⟨#[ch]⟩) live x m) {p p' p'' p3 : Pos} {w : Sem Value} {Q : Bool → Shared → Prop} (h : ∀ z, GSt G ln cs tok (some ⟨#[ch]⟩) live z m → Q (wsB ch) z.s) :
    Wp G.T A (isTrue (.Compare (.Name "ch" p) [.In] [.Attribute (.Name "self" p') "whitespace" p''] p3) G.env w) Q x := by
  refine wpAny_isTrue_Compare1 (g_lookch O H fun t => lex_inst H.I lexAt_get fun _ _ _ _ _ _ _ _ _ R => ?_) rfl
  refine attr_self X O H.I H.F (look_self.trans H.self) R.inst (by decide) R.m3 rfl (P.in_str (wpAny_truthy_bool ?_))
  rw [subStr_one ws_sub]
  exact h _ H.toks
theorem g_token (O : TopOk G.T c) (H : GSt G ln cs tok chv live x m) {p p' : Pos} {Q : Flow → Shared → Prop} (h : ∀ t, Q (.ret (.str ⟨tok.toArray⟩ t)) x.s) : Wp G.T A (exec (.Return (some (.Name "token" p)) p') G.env) Q x :=
  wpAny_Return_some (look_ok' O H.I H.F (look_token.trans H.token) fun u r => r.elim fun t e => e ▸ h t)
theorem set_ne {n k : Str} {v : AV} (h : k ≠ n) : m.set n v k = m k := if_neg h
theorem set_at {n : Str} {v : AV} : m.set n v n = some v := if_pos rfl
/-- token += ch -/
theorem g_add (O : TopOk G.T c) {y : List Nat} (H : GSt G ln cs tok (some ⟨y.toArray⟩) live x m) (hb : tok.length + y.length ≤ 2 ^ 20) {p p' p'' : Pos} {Q : Flow → Shared → Prop}
    (h : ∀ z m', GSt G ln cs (tok ++ y) none live z m' → Q .next z.s) : Wp G.T A (exec (Stmt.AugAssign (Expr.Name "token" p) Operator.Add (Expr.Name "ch" p') p'') G.env) Q x := by
  have hsz : (⟨tok.toArray⟩ : Str).length + (⟨y.toArray⟩ : Str).length ≤ sizeLine := Nat.le_trans hb (by decide)
  refine wpAny_AugAssign_Name ((look_ok (A := A) (Pa := fun v => v = .str ⟨tok.toArray⟩) O H.I H.F (by rw [look_token.trans H.token]; exact rfl) fun v u e r => ?_).2)
  subst e
  obtain ⟨t, rfl⟩ := r
  refine g_lookch O H fun t' => PyProof.Rows.iadd_str (fun t2 tk => ?_) hsz
  have H' := H.toks (tk := tk)
  exact bind_ok (x := x.to x.h tk) H'.I H'.F (n := "token") (v := .str ((⟨tok.toArray⟩ : Str) ++ (⟨y.toArray⟩ : Str))) (.inl (by kernel_rfl)) ⟨t2, rfl⟩ fun z S I F k => h z _
    (H'.bind (chv' := none) S I F k ((set_ne (by decide)).trans H.self) (set_at.trans (congrArg (fun z => some (AV.str ⟨z⟩)) (List.append_toArray tok y))) ((set_ne (by decide)).trans H.fiter) fun y hy => by cases hy)
/-- ch takes a sign -/
theorem g_ch (H : GSt G ln cs tok chv live x m) {y : Str} {t : Tok} {Q : Unit → Shared → Prop} (h : ∀ z m', GSt G ln cs tok (some y) live z m' → Q () z.s) : Wp G.T A (storeName G.env "ch" (.str y t)) Q x :=
  bind_ok H.I H.F (n := "ch") (v := .str y) (.inl (by kernel_rfl)) ⟨t, rfl⟩ fun z S I F k => h z _
    (H.bind (chv' := some y) S I F k ((set_ne (by decide)).trans H.self) ((set_ne (by decide)).trans H.token) ((set_ne (by decide)).trans H.fiter) fun z hz => by injection hz with hz; exact hz ▸ set_at)

theorem GSt.ended {h' : Heap} (H : GSt G ln cs tok chv live x m) (hext : Heap.ExtBut G.it x.h h') (hend : h'.get? G.it = some citEnd) : GSt G ln cs tok chv false (x.to h' x.s.toks) m :=
  have M : But (· = G.it) x (x.to h' x.s.toks) := ⟨fun a o e q => hext a o q e, fun _ _ _ => rfl, fun _ _ => rfl, Nat.le_refl _, rfl, rfl⟩
  { H with S := H.S.but M fun a e => e ▸ H.nit, I := M.inv H.I (fun a e => .inr (e ▸ H.cit)) rfl, F := H.F.go M.go (fun a e q => Col.noConfusion (e.symm.trans (q ▸ H.cit))) (fun a L e q => Col.noConfusion (e.symm.trans (q ▸ H.cit))), oit := hend, obm := hext _ _ H.bmit H.obm }
/-- a sign is read -/
theorem g_code (R : ReadFn G.T G.f) (hA : AOk A 2) (H : GSt G ln cs tok chv live x m) {w : Value} (hw : w = .ref (x.γ G.l)) {Q : Value → Shared → Prop}
    (k0 : cs = [] → ∀ t y, GSt G ln [] tok chv live y m → Q (.str ⟨#[]⟩ t) y.s) (k1 : ∀ ch cs' t y, cs = ch :: cs' → GSt G (nl ch ln) cs' tok chv live y m → Q (.str ⟨#[ch]⟩ t) y.s) : codeAny (model G.T.prog G.T.w) A (.call (.ref G.f) ⟨[w], []⟩) (CallR Q) x.s := by
  have hself : RepL G.T x [.loc G.l] [w] := ⟨_, _, rfl, ⟨hw, H.lx⟩, rfl⟩
  cases cs with
  | nil =>
    refine R.code (P := fun r => r = (.str ⟨#[]⟩, lexAt G.σ₀ G.l G.lf ln [])) (primRead_nil H.ne rfl) hA H.I hself fun r u y e E => ?_
    subst e
    obtain ⟨t, rfl⟩ := E.R
    exact k0 rfl t y (H.exp E.S E.I H.lt)
  | cons ch cs =>
    refine R.code (P := fun r => r = (.str ⟨#[ch]⟩, lexAt G.σ₀ G.l G.lf (nl ch ln) cs)) (primRead_cons H.ne H.lt rfl) hA H.I hself fun r u y e E => ?_
    subst e
    obtain ⟨t, rfl⟩ := E.R
    exact k1 _ _ t y rfl (H.exp E.S E.I fun x hx => H.lt x (.tail _ hx))
theorem g_next (R : ReadFn G.T G.f) (hA : AOk A 3) (H : GSt G ln cs tok chv true x m) {Q : Option Value → Shared → Prop}
    (k0 : cs = [] → ∀ y, GSt G ln [] tok chv false y m → Q none y.s) (k1 : ∀ ch cs' t y, cs = ch :: cs' → GSt G (nl ch ln) cs' tok chv true y m → Q (some (.str ⟨#[ch]⟩ t)) y.s) : Wp G.T A (pyNext (.ref G.it)) Q x := by
  obtain ⟨o, ho, hfd⟩ := R.obj
  refine pyNext_cit hA.handled H.oit H.obm (H.I.base _ _ ho).1 hfd (g_code R hA.in1 H (congrArg Value.ref H.gl.symm) (fun e t y H' => ?_) fun ch cs' t y e H' => ?_)
  · refine ⟨_, t, rfl, H'.oit, H'.obm, (H'.I.base _ _ ho).1, ?_⟩
    rw [if_pos rfl]
    exact fun h' hext hend => k0 e _ (H'.ended hext hend)
  · refine ⟨_, t, rfl, H'.oit, H'.obm, (H'.I.base _ _ ho).1, ?_⟩
    rw [if_neg fun q => by injection q with q; injection q with q; cases q]
    exact k1 ch cs' t y e H'
theorem g_next_end (hA : AOk A 3) (H : GSt G ln cs tok chv false x m) {Q : Option Value → Shared → Prop} (k : ∀ y, GSt G ln cs tok chv false y m → Q none y.s) : Wp G.T A (pyNext (.ref G.it)) Q x :=
  pyNext_end hA.handled H.oit fun h' hext hend => k _ (H.ended hext hend)
/-- a sign is read aside -/
theorem g_read (X : LexTop G.T N mN) (O : TopOk G.T c) (R : ReadFn G.T G.f) (hA : AOk A 3) (H : GSt G ln cs tok chv live x m) {p p' p'' : Pos} (hp : p'.endLine = p''.line) {Q : Value → Shared → Prop}
    (k0 : cs = [] → ∀ t y, GSt G ln [] tok chv live y m → Q (.str ⟨#[]⟩ t) y.s) (k1 : ∀ ch cs' t y, cs = ch :: cs' → GSt G (nl ch ln) cs' tok chv live y m → Q (.str ⟨#[ch]⟩ t) y.s) :
    Wp G.T A (eval (.Call (.Attribute (.Name "self" p) "_read_char" p') [] [] p'') G.env) Q x := by
  obtain ⟨o, ho, fd, hfd⟩ := R.obj
  refine call_attr rfl hp (by decide) rfl (look_ok' O H.I H.F (look_self.trans H.self) fun u r pl => r.1 ▸ lex_meth X H.I lexAt_get (.inr (.inr rfl)) fun f' hf' => ?_)
  cases R.v.symm.trans hf'
  exact Calls.callWith_function (o := o) (fd := fd) (PyProof.Rows.evalArgs_nil3 ⟨⟨(H.I.base _ _ ho).1, hfd⟩, call_code (g_code R (hA.less (by decide)) H rfl k0 k1)⟩)
end
end Mine
namespace Mine
open PySem PyProof.Rows

theorem nl_add {c : Nat} {ln : Int} {n : Nat} : nl c (ln + (n : Nat)) = ln + (nlN c n : Nat) := by
  unfold nl nlN
  by_cases h : c = 10
  · rw [if_pos h, if_pos h]; exact Int.add_assoc ..
  · rw [if_neg h, if_neg h]
theorem sign_eq {c d : Nat} : ((⟨#[c]⟩ : Str) == ⟨#[d]⟩) = decide (c = d) := by
  by_cases h : c = d
  · rw [h, beq_self_eq_true, decide_eq_true rfl]
  · rw [beq_false_of_ne fun z => h (by injection z with z; injection z with z; injection z), decide_eq_false h]
theorem p_then' {c : Prop} [Decidable c] {p q : Prop} (h : c) (k : p) : if decide c = true then p else q := p_then (decide_eq_true h) k
theorem p_else' {c : Prop} [Decidable c] {p q : Prop} (h : ¬ c) (k : q) : if decide c = true then p else q := p_else (decide_eq_false h) k

section
variable {stop : Nat → Bool} {c d : Nat} {tok cs : List Nat} {n : Nat}
theorem scan_stop (h92 : stop 92 = false) (hs : stop c = true) : scan stop tok (c :: cs) n = (tok, cs, nlN c n) := by
  have h : c ≠ 92 := fun e => by rw [e, h92] at hs; cases hs
  cases cs <;> exact (if_neg h).trans (if_pos hs)
theorem scan_more (h : c ≠ 92) (hs : ¬ stop c = true) : scan stop tok (c :: cs) n = scan stop (tok ++ [c]) cs (nlN c n) := by
  cases cs <;> exact (if_neg h).trans (if_neg hs)
theorem scan_end : scan stop tok [92] n = (tok, [], n) := rfl
theorem scan_esc : scan stop tok (92 :: d :: cs) n = scan stop (tok ++ [d]) cs (nlN d n) := rfl
end

/-- the result of a reading -/
noncomputable abbrev Rdg := List Nat × List Nat × Nat
/-- how a loop over the signs ends -/
structure GEnd (G : Gx) (ln : Int) (res : Rdg) (Q : Flow → Shared → Prop) : Prop where
  ret : ∀ t y m live, GSt G (ln + (res.2.2 : Nat)) res.2.1 res.1 none live y m → Q (.ret (.str ⟨res.1.toArray⟩ t)) y.s
  nxt : ∀ y m, GSt G (ln + (res.2.2 : Nat)) [] res.1 none false y m → res = (res.1, [], res.2.2) → Q .next y.s
/-- what holds ahead of a turn -/
noncomputable def GTurn (G : Gx) (ln : Int) (stop : Nat → Bool) (res : Rdg) (n : Nat) (s : Shared) : Prop := ∃ y m cs tok nn, y.s = s ∧ GSt G (ln + (nn : Nat)) cs tok none true y m ∧ scan stop tok cs nn = res ∧ cs.length = n ∧ tok.length + cs.length ≤ 2 ^ 20

section
variable {G : Gx} {c : Cfg} {A : Around} {x y : St} {m : Fm} {ln : Int} {cs tok : List Nat} {nn : Nat} {N : Addr} {mN : Str → Option Value} {stop : Nat → Bool} {res : Rdg} {Q : Flow → Shared → Prop}

theorem none_of {α : Type} {o : Option α} : ∀ y, none = some y → o = some y := fun _ h => by cases h
theorem len_mid {t : List Nat} {d : Nat} {r : List Nat} {b : Nat} (h : t.length + (d :: r).length ≤ b) : (t ++ [d]).length + r.length ≤ b := by
  rw [List.length_append, Nat.add_assoc, Nat.add_comm [d].length]; exact h
theorem le_of_add {a b n : Nat} (h : a + (b + 1) ≤ n) : a + b ≤ n := Nat.le_of_succ_le h

/-- behind a sign that is no stop: token grows, the next turn -/
theorem g_more (O : TopOk G.T c) {ch : Nat} {n : Nat} (H : GSt G (ln + (nn : Nat)) cs tok (some ⟨#[ch]⟩) true x m) (hres : scan stop (tok ++ [ch]) cs nn = res) (hn : cs.length < n) (hb : tok.length + (ch :: cs).length ≤ 2 ^ 20) {p p' p'' : Pos} :
    Wp G.T A (execs [Stmt.AugAssign (Expr.Name "token" p) Operator.Add (Expr.Name "ch" p') p''] G.env) (TurnEnd (GTurn G ln stop res) n Q) x :=
  wpAny_execs_cons (g_add O (y := [ch]) H (Nat.le_trans (Nat.add_le_add_left (Nat.succ_le_succ (Nat.zero_le _)) _) hb) fun z m' H' => wpAny_execs_nil ⟨cs.length, hn, z, m', cs, _, nn, rfl, H', hres, rfl, len_mid hb⟩)
/-- a loop over the signs up to one that stops it -/
theorem g_scan (X : LexTop G.T N mN) (O : TopOk G.T c) (R : ReadFn G.T G.f) (hA : AOk A 3) {te : Expr}
    (hte : ∀ {x m ln cs tok ch} {w : Sem Value} {Q : Bool → Shared → Prop}, GSt G ln cs tok (some ⟨#[ch]⟩) true x m → (∀ z, GSt G ln cs tok (some ⟨#[ch]⟩) true z m → Q (stop ch) z.s) → Wp G.T A (isTrue te G.env w) Q x) (h92 : stop 92 = false)
    (H : GSt G (ln + (nn : Nat)) cs tok none true x m) (hb : tok.length + cs.length ≤ 2 ^ 20) (hres : scan stop tok cs nn = res) (E : GEnd G ln res Q) {k : Nat} {p1 p2 p3 p4 p5 p6 p7 p8 p9 pa pb pc pd pe pf pg ph pi : Pos} (hp : pa.endLine = pb.line) :
    Wp G.T A (exec (.For (.Name "ch" p1) (.Name "fiter" p2) [.If te [.Return (some (.Name "token" p3)) p4] [.If (.Compare (.Name "ch" p5) [.Eq] [.Constant (.str ⟨#[92]⟩) k p6] p7) [.Assign [.Name "ch" p8] (.Call (.Attribute (.Name "self" p9) "_read_char" pa) [] [] pb) pc] [] pd] pe,
      .AugAssign (.Name "token" pf) .Add (.Name "ch" pg) ph] [] pi) G.env) Q x := by
  refine wpAny_For (look_ok' O H.I H.F (look_fiter.trans H.fiter) fun u r => ?_) (fun y => rfl)
  rw [show u = .ref G.it from r]
  refine pyIter_cit H.oit rfl ?_
  refine forLoop_wp (Q := Q) (fun _ _ q => q) (GTurn G ln stop res) ?_ cs.length ⟨x, m, cs, tok, nn, rfl, H, hres, rfl, hb⟩
  rintro n _ ⟨y, m, cs, tok, nn, rfl, H, hres, rfl, hb⟩
  refine g_next R hA H (fun e y H1 => ?_) fun ch cs' t y e H1 => ?_
  · subst e
    have e : (tok, [], nn) = res := hres
    subst e
    exact E.nxt y m H1 rfl
  · subst e
    refine letGo_plain H1.oit rfl (by decide) ?_
    refine wpAny_assign_Name (g_ch H1 fun z m H => ?_)
    rw [nl_add] at H
    refine wpAny_execs_cons (wpAny_If (hte H fun z H => ?_))
    by_cases hs : stop ch = true
    · rw [scan_stop h92 hs] at hres
      subst hres
      exact p_then hs (wpAny_execs_cons (g_token O H fun t => E.ret t z _ true (H.chars none_of)))
    · refine p_else (Bool.eq_false_iff.mpr hs) (wpAny_execs_cons (wpAny_If (g_eq O H fun z H => ?_)))
      rw [sign_eq]
      by_cases h : ch = 92
      · subst h
        refine p_then' rfl (wpAny_execs_cons (wpAny_Assign_Name (g_read X O R hA H hp (fun e t z H2 => ?_) fun d cs t z e H2 => ?_)))
        · subst e
          refine g_ch H2 fun z m H => ?_
          refine wpAny_execs_nil (wpAny_execs_nil (wpAny_execs_cons (g_add O (y := []) H (Nat.le_trans (Nat.add_le_add_left (Nat.zero_le _) _) hb) fun z m H => wpAny_execs_nil ⟨0, Nat.zero_lt_succ _, z, m, [], _, nn, rfl, H, ?_, rfl, ?_⟩)))
          · rw [List.append_nil]; exact hres
          · rw [List.append_nil]; exact le_of_add hb
        · subst e
          rw [nl_add] at H2
          refine g_ch H2 fun z m H => ?_
          exact wpAny_execs_nil (wpAny_execs_nil (g_more O H hres (Nat.le_succ_of_le (Nat.le_refl _)) (le_of_add hb)))
      · rw [scan_more h hs] at hres
        exact p_else' h (wpAny_execs_nil (wpAny_execs_nil (g_more O H hres (Nat.lt_succ_self _) hb)))
end
end Mine
namespace Mine
open PySem PyProof.Rows

/-- the loops of get_token, by place -/
noncomputable def outerFor : Stmt := ((bodyOf (methAt pw ci 2))[3]?).getD (.Pass default)
noncomputable def thenOf : Stmt → List Stmt
  | .If _ a _ _ => a
  | _ => []
noncomputable def elseOf : Stmt → List Stmt
  | .If _ _ b _ => b
  | _ => []
noncomputable def bodyFor : Stmt → List Stmt
  | .For _ _ b _ _ => b
  | _ => []
noncomputable def quotedFor : Stmt := ((thenOf (((bodyFor outerFor)[1]?).getD (.Pass default)))[0]?).getD (.Pass default)
noncomputable def bareFor : Stmt := ((elseOf (((bodyFor outerFor)[1]?).getD (.Pass default)))[2]?).getD (.Pass default)
noncomputable def retStmt : Stmt := ((bodyOf (methAt pw ci 2))[4]?).getD (.Pass default)

/-- what holds ahead of a turn of the outer loop -/
structure OLive (G : Gx) (ln : Int) (res : Rdg) (n : Nat) (y : St) (m : Fm) (cs : List Nat) (nn : Nat) : Prop where
  H : GSt G (ln + (nn : Nat)) cs [] none true y m
  r : token cs nn = res
  n : n = cs.length + 1
  b : cs.length ≤ 2 ^ 20
structure ODead (G : Gx) (ln : Int) (res : Rdg) (n : Nat) (y : St) (m : Fm) : Prop where
  H : GSt G (ln + (res.2.2 : Nat)) [] res.1 none false y m
  r : res = (res.1, [], res.2.2)
  n : n = 0
noncomputable def OTurn (G : Gx) (ln : Int) (res : Rdg) (n : Nat) (s : Shared) : Prop := (∃ y m cs nn, y.s = s ∧ OLive G ln res n y m cs nn) ∨ ∃ y m, y.s = s ∧ ODead G ln res n y m

section
variable {G : Gx} {c : Cfg} {A : Around} {x y : St} {m : Fm} {ln : Int} {cs tok : List Nat} {nn : Nat} {N : Addr} {mN : Str → Option Value} {res : Rdg} {Q : Flow → Shared → Prop}

/-- the token is known -/
noncomputable abbrev GRet (G : Gx) (ln : Int) (res : Rdg) (Q : Flow → Shared → Prop) : Prop := ∀ t y m live, GSt G (ln + (res.2.2 : Nat)) res.2.1 res.1 none live y m → Q (.ret (.str ⟨res.1.toArray⟩ t)) y.s

theorem g_end (K : GRet G ln res Q) {n : Nat} (hn : 0 < n) : GEnd G ln res (TurnEnd (OTurn G ln res) n Q) := ⟨K, fun y m H e => ⟨0, hn, .inr ⟨y, m, rfl, H, e, rfl⟩⟩⟩
theorem g_bare (X : LexTop G.T N mN) (O : TopOk G.T c) (R : ReadFn G.T G.f) (hA : AOk A 3) (H : GSt G (ln + (nn : Nat)) cs tok none true x m) (hb : tok.length + cs.length ≤ 2 ^ 20) (hres : scan wsB tok cs nn = res) (E : GEnd G ln res Q) : Wp G.T A (exec bareFor G.env) Q x :=
  g_scan X O R hA (fun H h => g_in X O H h) rfl H hb hres E rfl
theorem g_quoted (X : LexTop G.T N mN) (O : TopOk G.T c) (R : ReadFn G.T G.f) (hA : AOk A 3) (H : GSt G (ln + (nn : Nat)) cs tok none true x m) (hb : tok.length + cs.length ≤ 2 ^ 20) (hres : scan qtB tok cs nn = res) (E : GEnd G ln res Q) : Wp G.T A (exec quotedFor G.env) Q x :=
  g_scan X O R hA (fun H h => g_eq O H fun z H' => by rw [show Str.ofString "\"" = ⟨#[34]⟩ by decide, sign_eq]; exact h z H') rfl H hb hres E rfl
/-- a bare word's rest -/
theorem g_tail (X : LexTop G.T N mN) (O : TopOk G.T c) (R : ReadFn G.T G.f) (hA : AOk A 3) {y : List Nat} (H : GSt G (ln + (nn : Nat)) cs [] (some ⟨y.toArray⟩) true x m) (hb : y.length + cs.length ≤ 2 ^ 20) (hres : scan wsB y cs nn = res) (E : GEnd G ln res Q) {p p' p'' : Pos} :
    Wp G.T A (execs [Stmt.AugAssign (Expr.Name "token" p) Operator.Add (Expr.Name "ch" p') p'', bareFor] G.env) Q x := by
  refine wpAny_execs_cons (g_add O (y := y) H (by rw [List.length_nil, Nat.zero_add]; exact Nat.le_trans (Nat.le_add_right _ _) hb) fun z m H => wpAny_execs_cons (g_bare X O R hA H hb hres ⟨E.ret, fun y m H e => wpAny_execs_nil (E.nxt y m H e)⟩))

/-- what follows the outer loop -/
noncomputable def OPost (G : Gx) (A : Around) (Q : Flow → Shared → Prop) : Flow → Shared → Prop := fun f s => match f with
  | .next => wpAny (model G.T.prog G.T.w) A (execs [retStmt] G.env) Q NoE s
  | f => Q f s
theorem g_outer (X : LexTop G.T N mN) (O : TopOk G.T c) (R : ReadFn G.T G.f) (hA : AOk A 3) (H : GSt G ln cs [] none true x m) (hb : cs.length ≤ 2 ^ 20) (hres : token cs 0 = res) (K : GRet G ln res Q) : Wp G.T A (execs [outerFor, retStmt] G.env) Q x := by
  refine wpAny_execs_cons (wpAny_For (look_ok' O H.I H.F (look_fiter.trans H.fiter) fun u r => ?_) (fun y => rfl))
  rw [show u = .ref G.it from r]
  refine pyIter_cit H.oit rfl ?_
  refine forLoop_wp (Q := OPost G A Q) (fun f s q => by cases f <;> exact q) (OTurn G ln res) ?_ (cs.length + 1) (.inl ⟨x, m, cs, 0, rfl, by rw [show ln + ((0 : Nat) : Int) = ln from Int.add_zero _]; exact H, hres, rfl, hb⟩)
  rintro n _ (⟨y, m, cs, nn, rfl, L⟩ | ⟨y, m, rfl, D⟩)
  · refine g_next R hA L.H (fun e y H1 => ?_) fun ch cs' t y e H1 => ?_
    · have hr := L.r
      rw [e] at hr
      have hr : ([], [], nn) = res := hr
      subst hr
      exact wpAny_execs_cons (g_token O H1 fun t => K t y m false H1)
    · have hr := L.r
      have hb := L.b
      have hn := L.n
      rw [e] at hr hb hn
      refine letGo_plain H1.oit rfl (by decide) ?_
      refine wpAny_assign_Name (g_ch H1 fun z m H => ?_)
      rw [nl_add] at H
      refine wpAny_execs_cons (wpAny_If (g_in X O H fun z H => ?_))
      have hr : (if wsB ch = true then token cs' (nlN ch nn) else if ch = 34 then scan qtB [] cs' nn else if ch = 92 then esc cs' nn else scan wsB [ch] cs' nn) = res := hr
      have h0 : 0 < n := hn ▸ Nat.zero_lt_succ _
      by_cases hws : wsB ch = true
      · rw [if_pos hws] at hr
        exact p_then hws (wpAny_execs_cons (wpAny_Continue ⟨cs'.length + 1, hn ▸ Nat.lt_succ_self _, .inl ⟨z, _, cs', _, rfl, H.chars none_of, hr, rfl, Nat.le_of_succ_le hb⟩⟩))
      · rw [if_neg hws] at hr
        have h10 : nlN ch nn = nn := if_neg fun e => hws (by rw [e]; rfl)
        rw [h10] at H
        refine p_else (Bool.eq_false_iff.mpr hws) (wpAny_execs_nil (wpAny_execs_cons (wpAny_If (g_eq O H fun z H => ?_))))
        rw [show Str.ofString "\"" = ⟨#[34]⟩ by decide, sign_eq]
        by_cases h34 : ch = 34
        · rw [if_pos h34] at hr
          refine p_then' h34 (wpAny_execs_cons (g_quoted X O R hA (H.chars none_of) (by rw [List.length_nil, Nat.zero_add]; exact Nat.le_of_succ_le hb) hr ⟨(g_end K h0).ret, fun y m H e => wpAny_execs_nil (wpAny_execs_nil ((g_end K h0).nxt y m H e))⟩))
        · rw [if_neg h34] at hr
          refine p_else' h34 (wpAny_execs_cons (wpAny_If (g_eq O H fun z H => ?_)))
          rw [show Str.ofString "\\" = ⟨#[92]⟩ by decide, sign_eq]
          by_cases h92 : ch = 92
          · rw [if_pos h92] at hr
            refine p_then' h92 (wpAny_execs_cons (wpAny_Assign_Name (g_read X O R hA H rfl (fun e t z H2 => ?_) fun d cs t z e H2 => ?_)))
            · rw [e] at hr
              refine g_ch H2 fun z m H => ?_
              refine wpAny_execs_nil (g_tail X O R hA (y := []) H (Nat.zero_le _) hr ?_)
              exact ⟨(g_end K h0).ret, fun y m H e => wpAny_execs_nil ((g_end K h0).nxt y m H e)⟩
            · rw [e] at hr hb
              rw [nl_add] at H2
              refine g_ch H2 fun z m H => ?_
              refine wpAny_execs_nil (g_tail X O R hA (y := [d]) H (by rw [Nat.add_comm]; exact Nat.le_of_succ_le hb) hr ?_)
              exact ⟨(g_end K h0).ret, fun y m H e => wpAny_execs_nil ((g_end K h0).nxt y m H e)⟩
          · rw [if_neg h92] at hr
            refine p_else' h92 (wpAny_execs_nil (g_tail X O R hA (y := [ch]) H (by rw [Nat.add_comm]; exact hb) hr ?_))
            exact ⟨(g_end K h0).ret, fun y m H e => wpAny_execs_nil ((g_end K h0).nxt y m H e)⟩
  · refine g_next_end hA D.H fun y H => wpAny_execs_cons (g_token O H fun t => K t y m false ?_)
    have e : res.2.1 = [] := by rw [D.r]
    rw [e]; exact H
end
end Mine
namespace Mine
open PySem PyProof.Rows

theorem signs_eq {xs : List AV} {P : List Nat → Prop} (h : Sat (signs? xs) P) : ∃ cs, xs = chars cs ∧ (∀ x ∈ cs, x < 0x110000) ∧ P cs := by
  induction xs generalizing P with
  | nil => exact ⟨[], rfl, fun _ h => absurd h List.not_mem_nil, h⟩
  | cons x xs ih =>
    cases x with
    | str s =>
      obtain ⟨⟨l⟩⟩ := s
      rcases l with _ | ⟨c, _ | ⟨d, l⟩⟩
      · exact h.elim
      · obtain ⟨hc, h⟩ := Sat.iteI h
        obtain ⟨cs, rfl, h2, h3⟩ := ih h.mapI
        exact ⟨c :: cs, rfl, List.forall_mem_cons.mpr ⟨hc, h2⟩, h3⟩
      · exact h.elim
    | _ => exact h.elim

section
variable {T : Tp} {c : Cfg} {k : Nat} {A : Around} {x : St} {σ : Sto} {P : AV × Sto → Prop} {Q : Value → Shared → Prop} {N : Addr} {mN : Str → Option Value} {l lf : Nat} {ln : Int} {cs : List Nat}

theorem get_pop (X : LexTop T N mN) (O : TopOk T c) {a : Addr} {fd : FuncData} (D : FdAt T.h₀ a fd (bodyOf (methAt pw ci 2)) ["self"]) (hclo : fd.closure = []) (hsc : fd.scope = sc2)
    {t : AV} {ts : List AV} (hg : σ.get l = some (.lexer ln lf (t :: ts))) (hA : AOk A (k + 1)) (I : Inv T x σ) (hl : l < x.n) (h : P (t, σ.upd l (.lexer ln lf ts))) (kt : Kv T x P Q) : Wp T A (call (.ref a) [.ref (x.γ l)]) Q x := by
  refine call_code (fd_code (k := k) (args := [.loc l]) O.nolimit D hclo (by rw [hsc]; decide) hA I rfl ⟨_, _, rfl, ⟨rfl, hl⟩, rfl⟩ fun env y C S hown => ?_)
  rw [hsc] at C
  refine lex_inst C.I hg fun o d pb ws ep sv tl tw mA R => ?_
  obtain ⟨v0, ws, rfl, r0, rws⟩ := R.p.q
  have hb : ts.length + 1 ≤ 2 ^ 24 := R.p.b
  refine wpAny_execs_cons (wpAny_If (isTrue_plain (attr_self X O C.I C.F (l := l) (by kernel_rfl) R.inst (by decide) R.m4 rfl (wpAny_truthy_list (lobj_list R.p.g) (Int.lt_of_le_of_lt (Int.ofNat_le.mpr R.p.len) (by decide)) ?_))))
  refine p_then (b := !(v0 :: ws).toArray.isEmpty) rfl ?_
  refine wpAny_execs_cons (wpAny_Return_some (call_attr rfl rfl (by decide) rfl (attr_self (x := y.to y.h _) X O C.I.toks C.F.toks (l := l) (by kernel_rfl) R.inst (by decide) R.m4 rfl fun pl => ?_)))
  refine getMethod_list_of F.slot_list_pop F.type_list_pop (lobj_list R.p.g) ⟨_, R.p.g, rfl⟩ ?_
  refine Calls.callWith_builtin rfl (Calls.evalArgs_plain (Calls.spliced_cons (wpAny_Constant_int (k := 0) (pos := ⟨0, 0, 0, 0⟩) (Calls.spliced_nil ?_))))
  refine pop0 (x := y.to y.h _) R.p.g R.p.len fun h' ep' hs hl => ?_
  have U := fun tk => upd_push (push' := ts) (tk := tk) C.I hg R hs hl (Nat.le_of_succ_le hb) rws
  exact kt _ v0 (y.to h' _) h ⟨S.te (U _).1, (U _).2, r0.step (U _).1⟩

theorem lexAt_same (h1 : σ.get l = some (.lexer ln lf [])) (h2 : σ.get lf = some (.list (chars cs))) : lexAt σ l lf ln cs = σ := by
  unfold lexAt
  rw [upd_same h2, upd_same h1]

/-- the two objects of the iterator -/
noncomputable def itC (x : St) (b : Addr) : Col := if (x.h.get? b).isSome then x.κ b else .tmp
theorem it_ext {h : Heap} {tk : Nat} (hk : ∀ a o, x.h.get? a = some o → h.get? a = some o) : Ext x (x.re h tk (itC x)) := .old hk fun _ _ e => if_pos (by rw [e]; rfl)
theorem itC_new {b : Addr} (hb : x.h.objs.size ≤ b) : itC x b = .tmp := if_neg (by rw [get?_ge hb]; exact Bool.false_ne_true)

theorem get_text (X : LexTop T N mN) (O : TopOk T c) (hit : c.glob "iter" = some (.bi .iter)) {f : Addr} (R : ReadFn T f) {a : Addr} {fd : FuncData} (D : FdAt T.h₀ a fd (bodyOf (methAt pw ci 2)) ["self"]) (hclo : fd.closure = []) (hsc : fd.scope = sc2)
    (hg : σ.get l = some (.lexer ln lf [])) (hgf : σ.get lf = some (.list (chars cs))) (hlt : ∀ x ∈ cs, x < 0x110000) (hb20 : cs.length ≤ 2 ^ 20) {res : Rdg} (hres : token cs 0 = res)
    (hA : AOk A (k + 4)) (I : Inv T x σ) (hl : l < x.n) (h : P (.str ⟨res.1.toArray⟩, lexAt σ l lf (ln + (res.2.2 : Nat)) res.2.1)) (kt : Kv T x P Q) : Wp T A (call (.ref a) [.ref (x.γ l)]) Q x := by
  have hne : lf ≠ l := fun e => by rw [e, hg] at hgf; cases hgf
  refine call_code (fd_code (k := k + 3) (args := [.loc l]) O.nolimit D hclo (by rw [hsc]; decide) hA I rfl ⟨_, _, rfl, ⟨rfl, hl⟩, rfl⟩ fun env y C S hown => ?_)
  rw [hsc] at C hown
  refine lex_inst C.I hg fun o d pb ws ep sv tl tw mA R1 => ?_
  obtain rfl : ws = [] := R1.p.q
  refine wpAny_execs_cons (wpAny_If (isTrue_plain (attr_self X O C.I C.F (l := l) (by kernel_rfl) R1.inst (by decide) R1.m4 rfl (wpAny_truthy_list (lobj_list R1.p.g) (by decide) ?_))))
  refine p_else (b := !([] : List Value).toArray.isEmpty) rfl (wpAny_execs_nil (wpAny_execs_cons (wpAny_Assign_Name (wpAny_Constant_str ?_))))
  refine bind_ok (sc := sc2) (x := y.to y.h _) C.I.toks C.F.toks (n := "token") (v := .str ⟨#[]⟩) (.inl (by kernel_rfl)) ⟨_, rfl⟩ fun z S2 I2 F2 k2 => ?_
  have S02 : Step (Ps (Owns env sc2)) x z := (S.te Ext.toks.step).ps.ts S2
  have hal : ∀ b, z.h.objs.size ≤ b → x.h.get? b = none := fun b hb => by
    cases e : x.h.get? b with
    | none => rfl
    | some o => obtain ⟨o', e'⟩ := S02.alive b o e; exact none_some (get?_ge hb) e'
  refine wpAny_execs_cons (wpAny_Assign_Name (PyProof.Rows.Call_Name rfl (look_ok' O I2 F2 (a := .bi .iter) (hit ▸ (by kernel_rfl)) fun u ru => ?_)))
  obtain rfl : Value.builtin "iter" = u := ru
  refine Calls.callWith_builtin rfl (Calls.evalArgs_plain (Calls.spliced_cons ?_))
  rw [arm_eval_Attribute, base_plain rfl]
  refine wpAny_bind (look_ok' O I2 F2 (a := .loc l) (by kernel_rfl) fun u ru => ?_)
  obtain ⟨rfl, hlz⟩ := ru
  refine wpAny_bind (wpAny_standAt (wpAny_bind (wpAny_holding ?_)))
  obtain ⟨f', fdf, of, q1, q2, q3, q4, q5⟩ := X.meth "_read_char" (by decide)
  cases R.v.symm.trans q1
  have hk2 : ∀ b o, T.h₀.get? b = some o → z.h.get? b = some o := fun b o e => (I2.base b o e).1
  refine X.at hk2 fun _ _ _ _ _ _ _ _ _ _ _ _ hC nsC => lex_inst I2 hg fun _ _ _ _ _ _ _ _ _ R2 => ?_
  refine bound_attr hC nsC (X.no _ (by decide)) q2 (X.no _ (by decide)) (hk2 _ _ q3) q4 R2.inst (R2.m5 _ (by decide)) ?_
  refine wpAny_bind (wpAny_letTemporaryGo (wpAny_pure (Calls.spliced_cons (wpAny_Constant_str (k := 0) (pos := ⟨0, 0, 0, 0⟩) (Calls.spliced_nil ?_)))))
  have hbm : (z.h.push (W.methodObj (.ref f) (.ref (z.γ l)))).get? z.h.objs.size = some (W.methodObj (.ref f) (.ref (z.γ l))) := Heap.get?_push_size _ rfl
  refine call_iter (f := f) (x := .ref (z.γ l)) hbm ?_
  generalize hh3 : z.h.push (W.methodObj (.ref f) (.ref (z.γ l))) = h3 at hbm
  generalize htt : z.s.toks + 1 = tt
  dsimp only
  have hk4 : ∀ b o, z.h.get? b = some o → (h3.push (citObj (.ref z.h.objs.size) tt)).get? b = some o := fun b o e => Heap.get?_push_of_some _ (hh3 ▸ Heap.get?_push_of_some _ e)
  have M := it_ext (tk := tt + 1) hk4
  have hcit : (h3.push (citObj (.ref z.h.objs.size) tt)).get? h3.objs.size = some (citObj (.ref z.h.objs.size) tt) := Heap.get?_push_size _ rfl
  have hb23 : z.h.objs.size < h3.objs.size := Heap.lt_size hbm
  refine bind_ok (sc := sc2) (x := z.re (h3.push (citObj (.ref z.h.objs.size) tt)) (tt + 1) (itC z)) (M.inv I2 rfl) (F2.step M.step) (n := "fiter") (v := .opq h3.objs.size) (.inl (by kernel_rfl)) rfl fun w S5 I5 F5 k5 => ?_
  have hc1 : itC z h3.objs.size = .tmp := itC_new (Nat.le_of_lt hb23)
  have hc2 : itC z z.h.objs.size = .tmp := itC_new (Nat.le_refl _)
  have hw {b : Addr} (hb : itC z b = .tmp) : ¬ Ps (Owns env sc2) b (itC z b) := fun q => q.elim (no_pe (a := b) (ob_tmp hb)) fun q => Owns.tmp (F2.step M.step) q.1 hb
  have hlex := lexAt_same hg hgf
  have H : GSt ⟨T, env, x, σ, l, lf, h3.objs.size, z.h.objs.size, f, tt⟩ ln cs [] none true w _ :=
    { S := (S02.ts M.step).ts S5, I := hlex.symm ▸ I5, F := F5, self := ((set_ne (by decide)).trans (set_ne (by decide))).trans (by kernel_rfl), token := (set_ne (by decide)).trans set_at, fiter := set_at, ch := fun y hy => by cases hy
      cit := k5 ▸ hc1, cbm := k5 ▸ hc2, oit := S5.keep _ _ hcit (hw hc1), obm := (S02.gam l hl) ▸ S5.keep _ _ (Heap.get?_push_of_some _ hbm) (hw hc2)
      lt := hlt, ne := hne, ll := hl, nit := hal _ (Nat.le_of_lt hb23), bmit := Nat.ne_of_lt hb23 }
  exact g_outer X O R (C.A.less (Nat.le_add_left _ _)) H hb20 hres (Q := fun fl s' => Q (fval fl) s') fun t y m live H => kt _ (.str ⟨res.1.toArray⟩ t) y h ⟨H.S.pe hown, H.I, t, rfl⟩
/-- get_token -/
theorem gettok_ok (X : LexTop T N mN) (O : TopOk T c) (hit : c.glob "iter" = some (.bi .iter)) {f : Addr} (R : ReadFn T f) {a : Addr} {fd : FuncData} (D : FdAt T.h₀ a fd (bodyOf (methAt pw ci 2)) ["self"]) (hclo : fd.closure = []) (hsc : fd.scope = sc2)
    {args : List AV} {vs : List Value} (e : Sat (primGet args σ) P) (hA : AOk A (k + 4)) (I : Inv T x σ) (r : RepL T x args vs) (kt : Kv T x P Q) : Wp T A (call (.ref a) vs) Q x :=
  on1_rep (C := fun vs => Wp T A (call (.ref a) vs) Q x) r e fun b v r1 e => onLoc_rep (C := fun v => Wp T A (call (.ref a) [v]) Q x) r1 e fun l hl e => onX_rep e fun ln lf ts hg e => by
    cases ts with
    | cons t ts => exact get_pop (k := k + 3) X O D hclo hsc hg hA I hl e kt
    | nil =>
      refine onL_rep I e fun xs _ _ hxs _ e => ?_
      obtain ⟨cs, rfl, hlt, e⟩ := signs_eq e.bindI
      obtain ⟨hb, e⟩ := e.iteI
      exact get_text X O hit R D hclo hsc hg hxs hlt (Nat.le_of_lt hb) rfl hA I hl e kt
end
end Mine
namespace Mine
open PySem PyProof.Rows

/-- a method of the lexer stands as it should -/
structure MethOk (T : Tp) (i : Nat) (n : Str) (ps : List Str) (a : Addr) (fd : FuncData) : Prop where
  D : FdAt T.h₀ a fd (bodyOf (methAt pw ci i)) ps
  clo : fd.closure = []
  sc : fd.scope = scopeOf (methAt pw ci i)
  v : T.fnV n = some (.ref a)
structure TextOk (T : Tp) (c : Cfg) (N : Addr) (mN : Str → Option Value) (pm : Value) : Prop where
  O : TopOk T c
  X : LexTop T N mN
  S : StreamTop T T.tabA pm
  it : c.glob "iter" = some (.bi .iter)
  init : ∃ fi fd, FdAt T.h₀ fi fd (bodyOf (methAt pw ci 0)) ["self", "fp"] ∧ fd.scope = scopeOf (methAt pw ci 0) ∧ mN "__init__" = some (.ref fi)
  read : ∃ a fd, MethOk T 1 "_read_char" ["self"] a fd
  get : ∃ a fd, MethOk T 2 "get_token" ["self"] a fd
  push : ∃ a fd, MethOk T 3 "push_token" ["self", "token"] a fd
  cls : T.fnV "_netrclex" = some (.ref T.C)
  defs : ∀ f d, Mine.defsOf pw f = some d → f ≠ "_law_stream" → DefOk T f d

theorem fns_ok {T : Tp} {c : Cfg} {N : Addr} {mN : Str → Option Value} {pm : Value} (H : TextOk T c N mN pm) (n : Nat) : FnsOk T (fns c (Mine.defsOf pw) n) (n + 6) := by
  induction n with
  | zero => exact fun f args A x σ u vs P Q e => e.elim
  | succ n ih =>
    intro f args A x σ u vs P Q e hA I hu r kt
    obtain ⟨ra, rfd, rM⟩ := H.read
    have rc {A : Around} {x : St} {σ : Sto} {P : AV × Sto → Prop} {Q : Value → Shared → Prop} {vs : List Value} {args : List AV} (e : Sat (primRead args σ) P) (hA : AOk A 2) (I : Inv T x σ) (r : RepL T x args vs) (kt : Kv T x P Q) : codeAny (model T.prog T.w) A (.call (.ref ra) ⟨vs, []⟩) (CallR Q) x.s :=
      read_code (k := 0) H.X H.O H.S.objs rM.D rM.clo rM.sc e hA I r kt
    rcases Sat.iteE e with ⟨hf, e⟩ | e
    · subst hf
      obtain ⟨a, fd, M⟩ := H.get
      cases M.v.symm.trans hu
      exact gettok_ok (k := n + 3) H.X H.O H.it ⟨rM.v, rM.D.obj.elim fun o h => ⟨o, h.1, rfd, h.2.2⟩, rc⟩ M.D M.clo M.sc e hA I r kt
    rcases Sat.iteE e with ⟨hf, e⟩ | e
    · subst hf
      obtain ⟨a, fd, M⟩ := H.push
      exact push_ok (k := n + 6) H.X H.O M.D M.clo M.sc M.v e hA I hu r kt
    rcases Sat.iteE e with ⟨hf, e⟩ | e
    · subst hf
      cases rM.v.symm.trans hu
      exact call_code (rc e (hA.less (Nat.le_add_left _ _)) I r kt)
    by_cases h4 : f = "_law_stream"
    · rw [if_pos h4] at e
      subst h4
      exact stream_ok (k := n + 6) H.S e hA I hu r kt
    rw [if_neg h4] at e
    rcases Sat.iteE e with ⟨hf, e⟩ | e
    · subst hf
      obtain ⟨fi, ifd, iD, isc, imN⟩ := H.init
      cases H.cls.symm.trans hu
      exact netrclex_ok (k := n + 5) H.X iD isc imN e hA I r kt
    · obtain ⟨d, hd, e⟩ := e.bindI.mk'
      exact def_ok (k := n + 6) H.O ih (H.defs _ _ hd h4) e hA I hu r kt
end Mine
namespace Mine
open PySem PySem.W PyProof.Rows

noncomputable def tupO (xs : List Value) : Obj := { cls := .type "tuple", data := .seq xs.toArray }
noncomputable def fldO (c : Value) (xs : List Value) : Obj := { cls := c, data := .fields xs.toArray }
noncomputable def codO (n q : Str) (t line na fl r : Nat) (b : Bool) (r2 : Nat) (m : List Value) (t2 : Nat) : Obj := fldO (.type "code") ([.str n t, .str q (t + 1), .str "/claim/cut.py" (t + 2), .int line 0, .int na 0, .int 0 0, .int 0 0, .int fl 0, .ref r, .bool b, .int 181 0, .ref r2, .none] ++ (m ++ [.int t2 0, .int line 0, .str "/claim/cut.py" (t2 + 1)]))
noncomputable def fnD (x : Option (Arguments × List Stmt × Scope)) (n q : Str) (g : Addr) (md code : Value) : FuncData := { name := n, qualname := q, params := argsOf x, body := .stmts (bodyOf x), scope := scopeOf x, globals := g, closure := [], defaults := .none, kwdefaults := .none, pyModule := md, code := code }
noncomputable def fn0 (x : Option (Arguments × List Stmt × Scope)) (n q : Str) : Obj := { cls := .none, data := .func { name := n, qualname := q, params := argsOf x, body := .stmts (bodyOf x), scope := scopeOf x, globals := 0, closure := [], defaults := .none, kwdefaults := .none } }
noncomputable def fnO (x : Option (Arguments × List Stmt × Scope)) (n q : Str) (md : Value) (c : Addr) : Obj := { cls := .type "function", data := .func (fnD x n q 3 md (.ref c)) }
noncomputable def dicO (es : List DictEntry) (n : Nat) : Obj := { cls := .type "dict", data := .dict es.toArray n }
noncomputable def de (P : Params) (k : Str) (t : Nat) (v : Value) : DictEntry := { hash := PyData.keyHash P k, key := .str k t, val := v }
noncomputable def ce (P : Params) (k : Str) (i : Int) (t : Nat) : DictEntry := de P k (t + 1) (.int i t)
noncomputable def o_43 : Obj := tupO []
noncomputable def o_44 : Obj := fldO .none []
noncomputable def o_45 : Obj := codO "<module>" "<module>" 182 1 0 0 11 false 12 [.none, .none, .none] 185
noncomputable def o_46 : Obj := { cls := .type "frame", slots := #[some (.ref 13), some (.ref 3), some (.ref 3), none, some (.str "__main__" 164), none, some (.ref 0)] }
noncomputable def o_50 : Obj := fldO .none [.int 2 0, .int 0 0, .ref 20]
noncomputable def o_51 : Obj := tupO []
noncomputable def o_52 : Obj := fldO (.type "builtin_function_or_method") [.builtin "type.__prepare__", .type "type"]
noncomputable def o_53 (P : Params) : Obj := dicO [de P "__module__" 196 (.str "cpy313.netrc" 187), de P "__qualname__" 198 (.str "_netrclex" 197), ce P "__firstlineno__" 2 199, de P "__init__" 208 (.ref 28), de P "_read_char" 216 (.ref 35), de P "get_token" 226 (.ref 42), de P "push_token" 234 (.ref 49), de P "__static_attributes__" 239 (.ref 50)] 8
noncomputable def o_54 : Obj := tupO []
noncomputable def o_55 : Obj := fldO .none [.int 4 0, .int 4 0, .ref 27, .int 10 0, .int 4 0, .ref 34, .int 16 0, .int 4 0, .ref 41, .int 43 0, .int 4 0, .ref 48]
noncomputable def o_56 : Obj := codO "_netrclex" "_netrclex" 191 2 0 0 18 false 19 [.none, .none, .none] 194
noncomputable def o_57 : Obj := { cls := .type "frame", slots := #[some (.ref 20), some (.ref 3), some (.ref 17), none, some (.str "cpy313.netrc" 187), none, some (.ref 0)] }
noncomputable def o_58 : Obj := tupO []
noncomputable def o_59 : Obj := fldO .none []
noncomputable def o_60 : Obj := tupO [.str "self" 204, .str "fp" 205]
noncomputable def o_61 : Obj := tupO []
noncomputable def o_62 : Obj := fn0 (methAt pw ci 0) "__init__" "_netrclex.__init__"
noncomputable def o_63 : Obj := codO "__init__" "_netrclex.__init__" 201 4 2 3 22 true 23 [.ref 24, .ref 25, .ref 26] 206
noncomputable def o_64 : Obj := fnO (methAt pw ci 0) "__init__" "_netrclex.__init__" (.str "cpy313.netrc" 187) 27
noncomputable def o_65 : Obj := tupO []
noncomputable def o_66 : Obj := fldO .none []
noncomputable def o_67 : Obj := tupO [.str "self" 212, .str "ch" 213]
noncomputable def o_68 : Obj := tupO []
noncomputable def o_69 : Obj := fn0 (methAt pw ci 1) "_read_char" "_netrclex._read_char"
noncomputable def o_70 : Obj := codO "_read_char" "_netrclex._read_char" 209 10 1 3 29 true 30 [.ref 31, .ref 32, .ref 33] 214
noncomputable def o_71 : Obj := fnO (methAt pw ci 1) "_read_char" "_netrclex._read_char" (.str "cpy313.netrc" 187) 34
noncomputable def o_72 : Obj := tupO []
noncomputable def o_73 : Obj := fldO .none []
noncomputable def o_74 : Obj := tupO [.str "self" 220, .str "token" 221, .str "fiter" 222, .str "ch" 223]
noncomputable def o_75 : Obj := tupO []
noncomputable def o_76 : Obj := fn0 (methAt pw ci 2) "get_token" "_netrclex.get_token"
noncomputable def o_77 : Obj := codO "get_token" "_netrclex.get_token" 217 16 1 3 36 true 37 [.ref 38, .ref 39, .ref 40] 224
noncomputable def o_78 : Obj := fnO (methAt pw ci 2) "get_token" "_netrclex.get_token" (.str "cpy313.netrc" 187) 41
noncomputable def o_79 : Obj := tupO []
noncomputable def o_80 : Obj := fldO .none []
noncomputable def o_81 : Obj := tupO [.str "self" 230, .str "token" 231]
noncomputable def o_82 : Obj := tupO []
noncomputable def o_83 : Obj := fn0 (methAt pw ci 3) "push_token" "_netrclex.push_token"
noncomputable def o_84 : Obj := codO "push_token" "_netrclex.push_token" 227 43 2 3 43 true 44 [.ref 45, .ref 46, .ref 47] 232
noncomputable def o_85 : Obj := fnO (methAt pw ci 3) "push_token" "_netrclex.push_token" (.str "cpy313.netrc" 187) 48
noncomputable def o_86 : Obj := tupO [.str "instream" 235, .str "lineno" 236, .str "pushback" 237, .str "whitespace" 238]
noncomputable def o_87 (P : Params) : Obj := dicO [de P "__module__" 196 (.str "cpy313.netrc" 187), ce P "__firstlineno__" 2 199, de P "__init__" 208 (.ref 28), de P "_read_char" 216 (.ref 35), de P "get_token" 226 (.ref 42), de P "push_token" 234 (.ref 49), de P "__static_attributes__" 239 (.ref 50), de P "__dict__" 241 (.ref 53), de P "__weakref__" 243 (.ref 54), de P "__doc__" 244 (.none)] 4
noncomputable def o_88 : Obj := { cls := .type "type", data := .cls { name := "_netrclex", bases := [.type "object"], mro := [.ref 52, .type "object"], ns := 51, qualname := "_netrclex" }, slots := #[none, none, some (.str "_netrclex" 189), some (.str "_netrclex" 197), some (.builtin "object.__new__"), some (.bool true)] }
noncomputable def o_89 : Obj := fldO (.type "getset_descriptor") [.str "__dict__" 240, .ref 52, .builtin "function.__dict__", .builtin "function.__dict__#set"]
noncomputable def o_90 : Obj := fldO (.type "getset_descriptor") [.str "__weakref__" 242, .ref 52, .builtin "ExceptionGroup.__weakref__", .none]
noncomputable def o_91 : Obj := fldO (.type "super") [.ref 52, .ref 52, .ref 52]
noncomputable def o_92 : Obj := fldO (.type "builtin_function_or_method") [.builtin "object.__init_subclass__", .ref 52]
noncomputable def o_96 (P : Params) : Obj := dicO [de P "!" 349 (.int 54 345), de P "!=" 351 (.int 28 293), de P "%" 353 (.int 24 285), de P "%=" 355 (.int 40 317), de P "&" 357 (.int 19 275), de P "&=" 359 (.int 41 319), de P "(" 361 (.int 7 251), de P ")" 363 (.int 8 253), de P "*" 365 (.int 16 269), de P "**" 367 (.int 35 307), de P "**=" 369 (.int 46 329), de P "*=" 371 (.int 38 313), de P "+" 373 (.int 14 265), de P "+=" 375 (.int 36 309), de P "," 377 (.int 12 261), de P "-" 379 (.int 15 267), de P "-=" 381 (.int 37 311), de P "->" 383 (.int 51 339), de P "." 385 (.int 23 283), de P "..." 387 (.int 52 341), de P "/" 389 (.int 17 271), de P "//" 391 (.int 47 331), de P "//=" 393 (.int 48 333), de P "/=" 395 (.int 39 315), de P ":" 397 (.int 11 259), de P ":=" 399 (.int 53 343), de P ";" 401 (.int 13 263), de P "<" 403 (.int 20 277), de P "<<" 405 (.int 33 303), de P "<<=" 407 (.int 44 325), de P "<=" 409 (.int 29 295), de P "=" 411 (.int 22 281), de P "==" 413 (.int 27 291), de P ">" 415 (.int 21 279), de P ">=" 417 (.int 30 297), de P ">>" 418 (.int 34 305), de P ">>=" 419 (.int 45 327), de P "@" 420 (.int 49 335), de P "@=" 421 (.int 50 337), de P "[" 422 (.int 9 255), de P "]" 423 (.int 10 257), de P "^" 424 (.int 32 301), de P "^=" 425 (.int 43 323), de P "{" 426 (.int 25 287), de P "|" 427 (.int 18 273), de P "|=" 428 (.int 42 321), de P "}" 429 (.int 26 289), de P "~" 430 (.int 31 299)] 48
noncomputable def o_97 (P : Params) : Obj := dicO [de P "->" 383 (.int 51 339), de P "." 385 (.int 23 283), de P "..." 387 (.int 52 341), de P "/" 389 (.int 17 271), de P "//" 391 (.int 47 331), de P "//=" 393 (.int 48 333), de P "/=" 395 (.int 39 315), de P ":" 397 (.int 11 259), de P ":=" 399 (.int 53 343), de P ";" 401 (.int 13 263), de P "<" 403 (.int 20 277), de P "<<" 405 (.int 33 303), de P "<<=" 407 (.int 44 325), de P "<=" 409 (.int 29 295), de P "=" 411 (.int 22 281), de P "==" 413 (.int 27 291), de P ">" 415 (.int 21 279)] 17
noncomputable def o_98 (P : Params) : Obj := dicO [de P ">=" 417 (.int 30 297), de P ">>" 418 (.int 34 305), de P ">>=" 419 (.int 45 327), de P "@" 420 (.int 49 335), de P "@=" 421 (.int 50 337), de P "[" 422 (.int 9 255), de P "]" 423 (.int 10 257), de P "^" 424 (.int 32 301), de P "^=" 425 (.int 43 323), de P "{" 426 (.int 25 287), de P "|" 427 (.int 18 273), de P "|=" 428 (.int 42 321), de P "}" 429 (.int 26 289), de P "~" 430 (.int 31 299)] 14
noncomputable def o_103 : Obj := fldO .none [.int 2 0, .int 0 0, .ref 20, .int 97 0, .int 0 0, .ref 65, .int 99 0, .int 0 0, .ref 72, .int 101 0, .int 0 0, .ref 79, .int 104 0, .int 0 0, .ref 86, .int 111 0, .int 0 0, .ref 91, .int 115 0, .int 0 0, .ref 98, .int 117 0, .int 0 0, .ref 105, .int 142 0, .int 0 0, .ref 112, .int 148 0, .int 0 0, .ref 117, .int 159 0, .int 0 0, .ref 122]
noncomputable def o_104 : Obj := tupO []
noncomputable def o_105 : Obj := fldO .none []
noncomputable def o_106 : Obj := tupO [.str "x" 449]
noncomputable def o_107 : Obj := tupO []
noncomputable def o_108 : Obj := fn0 (defAt pw 54) "ISTERMINAL" "ISTERMINAL"
noncomputable def o_109 : Obj := codO "ISTERMINAL" "ISTERMINAL" 446 97 1 3 60 true 61 [.ref 62, .ref 63, .ref 64] 450
noncomputable def o_110 : Obj := fnO (defAt pw 54) "ISTERMINAL" "ISTERMINAL" (.str "cpy313.token" 247) 65
noncomputable def o_111 : Obj := tupO []
noncomputable def o_112 : Obj := fldO .none []
noncomputable def o_113 : Obj := tupO [.str "x" 456]
noncomputable def o_114 : Obj := tupO []
noncomputable def o_115 : Obj := fn0 (defAt pw 55) "ISNONTERMINAL" "ISNONTERMINAL"
noncomputable def o_116 : Obj := codO "ISNONTERMINAL" "ISNONTERMINAL" 453 99 1 3 67 true 68 [.ref 69, .ref 70, .ref 71] 457
noncomputable def o_117 : Obj := fnO (defAt pw 55) "ISNONTERMINAL" "ISNONTERMINAL" (.str "cpy313.token" 247) 72
noncomputable def o_118 : Obj := tupO []
noncomputable def o_119 : Obj := fldO .none []
noncomputable def o_120 : Obj := tupO [.str "x" 463]
noncomputable def o_121 : Obj := tupO []
noncomputable def o_122 : Obj := fn0 (defAt pw 56) "ISEOF" "ISEOF"
noncomputable def o_123 : Obj := codO "ISEOF" "ISEOF" 460 101 1 3 74 true 75 [.ref 76, .ref 77, .ref 78] 464
noncomputable def o_124 : Obj := fnO (defAt pw 56) "ISEOF" "ISEOF" (.str "cpy313.token" 247) 79
noncomputable def o_125 : Obj := tupO []
noncomputable def o_126 : Obj := fldO .none []
noncomputable def o_127 : Obj := tupO [.str "left" 472, .str "_law_read" 473, .str "stream" 474]
noncomputable def o_128 : Obj := tupO [.str "left" 475]
noncomputable def o_129 : Obj := fn0 (defAt pw 58) "_law_stream" "_law_stream"
noncomputable def o_130 : Obj := codO "_law_stream" "_law_stream" 469 104 1 3 81 true 82 [.ref 83, .ref 84, .ref 85] 476
noncomputable def o_131 : Obj := fnO (defAt pw 58) "_law_stream" "_law_stream" (.str "law_ph0119_02" 467) 86
noncomputable def o_132 : Obj := tupO []
noncomputable def o_133 : Obj := fldO .none []
noncomputable def o_134 : Obj := fn0 (defAt pw 59) "_law_written" "_law_written"
noncomputable def o_135 : Obj := codO "_law_written" "_law_written" 479 111 3 3 88 true 89 [.none, .none, .ref 90] 482
noncomputable def o_136 : Obj := fnO (defAt pw 59) "_law_written" "_law_written" (.str "law_ph0119_02" 467) 91
noncomputable def o_137 : Obj := tupO []
noncomputable def o_138 : Obj := fldO .none []
noncomputable def o_139 : Obj := tupO [.str "word" 488, .str "told" 489]
noncomputable def o_140 : Obj := tupO []
noncomputable def o_141 : Obj := fn0 (defAt pw 60) "_law_symbol" "_law_symbol"
noncomputable def o_142 : Obj := codO "_law_symbol" "_law_symbol" 485 115 2 3 93 true 94 [.ref 95, .ref 96, .ref 97] 490
noncomputable def o_143 : Obj := fnO (defAt pw 60) "_law_symbol" "_law_symbol" (.str "law_ph0119_02" 467) 98
noncomputable def o_144 : Obj := tupO []
noncomputable def o_145 : Obj := fldO .none []
noncomputable def o_146 : Obj := tupO [.str "lexer" 496, .str "leads" 497, .str "told" 498, .str "written" 499, .str "answers" 500, .str "start" 501, .str "fresh" 502, .str "waiting" 503, .str "found" 504, .str "seen" 505, .str "word" 506, .str "road" 507, .str "one" 508, .str "other" 509, .str "here" 510, .str "there" 511, .str "k" 512]
noncomputable def o_147 : Obj := tupO []
noncomputable def o_148 : Obj := fn0 (defAt pw 61) "_law_answers" "_law_answers"
noncomputable def o_149 : Obj := codO "_law_answers" "_law_answers" 493 117 4 3 100 true 101 [.ref 102, .ref 103, .ref 104] 513
noncomputable def o_150 : Obj := fnO (defAt pw 61) "_law_answers" "_law_answers" (.str "law_ph0119_02" 467) 105
noncomputable def o_151 : Obj := tupO []
noncomputable def o_152 : Obj := fldO .none []
noncomputable def o_153 : Obj := tupO [.str "leads" 519, .str "symbol" 520, .str "road" 521, .str "step" 522]
noncomputable def o_154 : Obj := tupO []
noncomputable def o_155 : Obj := fn0 (defAt pw 62) "_law_there" "_law_there"
noncomputable def o_156 : Obj := codO "_law_there" "_law_there" 516 142 3 3 107 true 108 [.ref 109, .ref 110, .ref 111] 523
noncomputable def o_157 : Obj := fnO (defAt pw 62) "_law_there" "_law_there" (.str "law_ph0119_02" 467) 112
noncomputable def o_158 : Obj := tupO []
noncomputable def o_159 : Obj := fldO .none []
noncomputable def o_160 : Obj := fn0 (defAt pw 63) "_law_due" "_law_due"
noncomputable def o_161 : Obj := codO "_law_due" "_law_due" 526 148 2 3 114 true 115 [.none, .none, .ref 116] 529
noncomputable def o_162 : Obj := fnO (defAt pw 63) "_law_due" "_law_due" (.str "law_ph0119_02" 467) 117
noncomputable def o_163 : Obj := tupO []
noncomputable def o_164 : Obj := fldO .none []
noncomputable def o_165 : Obj := fn0 (defAt pw 64) "law" "law"
noncomputable def o_166 : Obj := codO "law" "law" 532 159 1 3 119 true 120 [.none, .none, .ref 121] 535
noncomputable def o_167 : Obj := fnO (defAt pw 64) "law" "law" (.str "law_ph0119_02" 467) 122
noncomputable def mHead (P : Params) : List DictEntry := [de P "__doc__" 166 (.none), de P "__package__" 167 (.none), de P "__loader__" 168 (.builtin "__main__.__loader__#opaque"), de P "__spec__" 169 (.none), de P "__annotations__" 170 (.ref 6), de P "__builtins__" 171 (.ref 4), de P "__file__" 173 (.str "/claim/cut.py" 172), de P "__cached__" 174 (.none)]
noncomputable def mOne (P : Params) : List DictEntry := [de P "_netrclex" 246 (.ref 52), ce P "ENDMARKER" 0 249, ce P "LPAR" 7 251, ce P "RPAR" 8 253, ce P "LSQB" 9 255, ce P "RSQB" 10 257, ce P "COLON" 11 259]
noncomputable def mTwo (P : Params) : List DictEntry := [ce P "COMMA" 12 261, ce P "SEMI" 13 263, ce P "PLUS" 14 265, ce P "MINUS" 15 267, ce P "STAR" 16 269, ce P "SLASH" 17 271, ce P "VBAR" 18 273, ce P "AMPER" 19 275, ce P "LESS" 20 277, ce P "GREATER" 21 279, ce P "EQUAL" 22 281, ce P "DOT" 23 283, ce P "PERCENT" 24 285, ce P "LBRACE" 25 287, ce P "RBRACE" 26 289, ce P "EQEQUAL" 27 291, ce P "NOTEQUAL" 28 293, ce P "LESSEQUAL" 29 295, ce P "GREATEREQUAL" 30 297, ce P "TILDE" 31 299, ce P "CIRCUMFLEX" 32 301, ce P "LEFTSHIFT" 33 303, ce P "RIGHTSHIFT" 34 305, ce P "DOUBLESTAR" 35 307, ce P "PLUSEQUAL" 36 309, ce P "MINEQUAL" 37 311, ce P "STAREQUAL" 38 313, ce P "SLASHEQUAL" 39 315, ce P "PERCENTEQUAL" 40 317, ce P "AMPEREQUAL" 41 319, ce P "VBAREQUAL" 42 321, ce P "CIRCUMFLEXEQUAL" 43 323, ce P "LEFTSHIFTEQUAL" 44 325, ce P "RIGHTSHIFTEQUAL" 45 327, ce P "DOUBLESTAREQUAL" 46 329, ce P "DOUBLESLASH" 47 331, ce P "DOUBLESLASHEQUAL" 48 333, ce P "AT" 49 335, ce P "ATEQUAL" 50 337, ce P "RARROW" 51 339, ce P "ELLIPSIS" 52 341, ce P "COLONEQUAL" 53 343, ce P "EXCLAMATION" 54 345, ce P "NT_OFFSET" 256 347]
noncomputable def mFns (P : Params) : List DictEntry := [de P "ISTERMINAL" 452 (.ref 66), de P "ISNONTERMINAL" 459 (.ref 73), de P "ISEOF" 466 (.ref 80), de P "_law_stream" 478 (.ref 87), de P "_law_written" 484 (.ref 92), de P "_law_symbol" 492 (.ref 99), de P "_law_answers" 515 (.ref 106), de P "_law_there" 525 (.ref 113), de P "_law_due" 531 (.ref 118), de P "law" 537 (.ref 123)]
noncomputable def o_49 (P : Params) : Obj := dicO (de P "__name__" 165 (.str "cpy313.token" 247) :: (mHead P ++ (mOne P))) 16
noncomputable def o_93 (P : Params) : Obj := dicO (de P "__name__" 165 (.str "cpy313.token" 247) :: (mHead P ++ (mOne P ++ mTwo P))) 60
noncomputable def o_95 (P : Params) : Obj := dicO (de P "__name__" 165 (.str "cpy313.token" 247) :: (mHead P ++ (mOne P ++ (mTwo P ++ [de P "EXACT_TOKEN_TYPES" 445 (.ref 57)])))) 61
noncomputable def o_102 (P : Params) : Obj := dicO (de P "__name__" 165 (.str "law_ph0119_02" 467) :: (mHead P ++ (mOne P ++ (mTwo P ++ (de P "EXACT_TOKEN_TYPES" 445 (.ref 57) :: mFns P))))) 71
noncomputable def hL (P : Params) (m c : Obj) (r : List Obj) : List Obj := boot_o_0 P :: boot_o_1 P :: boot_o_2 P :: m :: boot_o_4 P :: boot_o_5 P :: boot_o_6 P :: boot_o_7 P :: boot_o_8 P :: boot_o_9 P :: boot_o_10 P :: o_43 :: c :: o_45 :: o_46 :: r
noncomputable def rOne (P : Params) : List Obj := [o_51, o_52, o_53 P, o_54, o_55, o_56, o_57, o_58, o_59, o_60, o_61, o_62, o_63, o_64, o_65, o_66, o_67, o_68, o_69, o_70, o_71, o_72, o_73, o_74, o_75, o_76, o_77, o_78, o_79, o_80, o_81, o_82, o_83, o_84, o_85, o_86, o_87 P, o_88, o_89, o_90, o_91, o_92]
noncomputable def rTwo (P : Params) : List Obj := [o_96 P, o_97 P, o_98 P]
noncomputable def rFns : List Obj := [o_104, o_105, o_106, o_107, o_108, o_109, o_110, o_111, o_112, o_113, o_114, o_115, o_116, o_117, o_118, o_119, o_120, o_121, o_122, o_123, o_124, o_125, o_126, o_127, o_128, o_129, o_130, o_131, o_132, o_133, o_134, o_135, o_136, o_137, o_138, o_139, o_140, o_141, o_142, o_143, o_144, o_145, o_146, o_147, o_148, o_149, o_150, o_151, o_152, o_153, o_154, o_155, o_156, o_157, o_158, o_159, o_160, o_161, o_162, o_163, o_164, o_165, o_166, o_167]
noncomputable def hA (P : Params) : Heap := ⟨⟨hL P (boot_o_3 P) o_44 []⟩, {}⟩
noncomputable def hB (P : Params) : Heap := ⟨⟨hL P (o_49 P) o_50 (rOne P)⟩, {}⟩
noncomputable def hC (P : Params) : Heap := ⟨⟨hL P (o_93 P) o_50 (rOne P)⟩, {}⟩
noncomputable def hD (P : Params) : Heap := ⟨⟨hL P (o_95 P) o_50 (rOne P ++ rTwo P)⟩, {}⟩
noncomputable def hE (P : Params) : Heap := ⟨⟨hL P (o_102 P) o_103 (rOne P ++ (rTwo P ++ rFns))⟩, {}⟩
noncomputable def K02 (P : Params) : Frag := [(3, o_102 P), (27, o_63), (28, o_64), (34, o_70), (35, o_71), (41, o_77), (42, o_78), (48, o_84), (49, o_85), (51, o_87 P), (52, o_88), (57, o_96 P), (65, o_109), (66, o_110), (72, o_116), (73, o_117), (79, o_123), (80, o_124), (86, o_130), (87, o_131), (91, o_135), (92, o_136), (98, o_142), (99, o_143), (105, o_149), (106, o_150), (112, o_156), (113, o_157), (117, o_161), (118, o_162), (122, o_166), (123, o_167)]
noncomputable def a02 : List Addr := [3, 27, 28, 34, 35, 41, 42, 48, 49, 51, 52, 57, 65, 66, 72, 73, 79, 80, 86, 87, 91, 92, 98, 99, 105, 106, 112, 113, 117, 118, 122, 123]
noncomputable def env02 : Env := { scope := pw.main.scope, locals := mainNs, globals := mainNs, cells := [], code := .ref 13, frame := some 14 }
noncomputable def code02 : Code := .body (behindTheImports pw) env02
noncomputable def pos0 : Pos := ⟨0, 0, 0, 0⟩
/-- the text's statements, by groups -/
noncomputable def sts02 (i k : Nat) : List Stmt := (pw.main.body.drop i).take k
noncomputable def st02 (h : Heap) (tk : Nat) (os : OsState) : Shared := ⟨h, #[], {}, tk, os⟩
theorem hx_pre (w : World) (os : OsState) : topGo treeTable pw w 11 (some (.ref 6)) 12 ⟨boot_heap w.params, #[], boot_drawn, boot_toks, os⟩ (topStub pw) = some (st02 (hA w.params) 187 os, ⟨denote treeTable code02, code02, pos0, [topFrame pos0]⟩) := by kernel_rfl
theorem hx_block (w : World) (os : OsState) : segRun treeTable pw w 11 (some (.ref 6)) 1 1 (st02 (hA w.params) 187 os) (blockOf (behindTheImports pw) env02 code02 pos0 [topFrame pos0]) = some (.next, st02 (hA w.params) 187 os, code02, pos0) := by kernel_rfl
theorem hx_1 (w : World) (os : OsState) : segRun treeTable pw w 11 (some (.ref 6)) 1 396 (st02 (hA w.params) 187 os) (piecesOf (sts02 0 9) env02 code02 pos0 [topFrame pos0]) = some (.next, st02 (hB w.params) 261 os, code02, ⟨51, 0, 51, 5⟩) := by kernel_rfl

theorem hx_2 (w : World) (os : OsState) : segRun treeTable pw w 11 (some (.ref 6)) 1 397 (st02 (hB w.params) 261 os) (piecesOf (sts02 9 44) env02 code02 ⟨51, 0, 51, 5⟩ [topFrame pos0]) = some (.next, st02 (hC w.params) 349 os, code02, ⟨95, 0, 95, 9⟩) := by kernel_rfl
noncomputable def Hx3 (w : World) : Prop := ∀ os : OsState, segRun treeTable pw w 11 (some (.ref 6)) 1 979 (st02 (hC w.params) 349 os) (piecesOf (sts02 53 1) env02 code02 ⟨95, 0, 95, 9⟩ [topFrame pos0]) = some (.next, st02 (hD w.params) 446 os, code02, ⟨96, 0, 96, 17⟩)
theorem hx_3f (w : World) : Hx3 (w.withFollow "special-get-raises" false) := fun os => by kernel_rfl
theorem hx_3t (w : World) : Hx3 (w.withFollow "special-get-raises" true) := fun os => by kernel_rfl
theorem hx_3 (w : World) : Hx3 w := by
  have e := World.withFollow_self w "special-get-raises"
  cases hb : w.params.followText "special-get-raises" <;> rw [hb] at e
  · exact e ▸ hx_3f w
  · exact e ▸ hx_3t w
theorem hx_4 (w : World) (os : OsState) : segRun treeTable pw w 11 (some (.ref 6)) 1 314 (st02 (hD w.params) 446 os) (piecesOf (sts02 54 11) env02 code02 ⟨96, 0, 96, 17⟩ [topFrame pos0]) = some (.next, st02 (hE w.params) 538 os, code02, ⟨159, 0, 184, 47⟩) := by kernel_rfl
theorem hx_fin (w : World) (os : OsState) : topRun treeTable pw w 11 (some (.ref 6)) 2 (st02 (hE w.params) 538 os) ⟨doneF .next, code02, ⟨159, 0, 184, 47⟩, [topFrame pos0]⟩ = some (st02 (hE w.params) 538 os) := by kernel_rfl
theorem hx_body : behindTheImports pw = sts02 0 9 ++ (sts02 9 44 ++ (sts02 53 1 ++ (sts02 54 11 ++ []))) := by kernel_rfl
theorem hx_run (w : World) (os : OsState) : topRun treeTable pw w 11 (some (.ref 6)) (12 + (1 + (396 + (397 + (979 + (314 + 2)))))) ⟨boot_heap w.params, #[], boot_drawn, boot_toks, os⟩ (topStub pw) = some (st02 (hE w.params) 538 os) := by
  refine go_top (hx_pre w os) (piece_block (hx_block w os) ?_)
  rw [hx_body]
  exact piece_app (hx_1 w os) (piece_app (hx_2 w os) (piece_app (hx_3 w os) (piece_app (hx_4 w os) (piece_nil (hx_fin w os)))))
abbrev row02 := PySem.Challenge.rw_ph0119_02
noncomputable def view02 : Program := view pw ((List.range 65).filter fun i => !(i == 0 || i == 2 || i == 57))
noncomputable def loose02 : List Str := ["EXACT_TOKEN_TYPES"]
noncomputable def Xt02 (s : Shared) : Bool := xlAt view02 [] s && recOk (row02.row.toRowW).records s
noncomputable def hook02 : Hook := kmHook K02 a02 (fun _ => rfl) [82]
theorem hx_open : opening pw = plainProg pw.main.scope.names := by kernel_rfl
theorem hx_fence (s : Shared) : fenceModules? pw s = some s := by kernel_rfl
theorem hx_size (w : World) : ((boot_heap w.params).isNs mainGlobals && (Array.mk ([] : List GenState)).size == 0, (boot_heap w.params).objs.size, (boot_heap w.params).nsMap mainGlobals "__annotations__") = (true, 11, some (.ref 6)) := by kernel_rfl
theorem hx_stat (w : World) (os : OsState) : (staticsOk (importedModules pw.main.body) (boot_heap w.params) (hE w.params) && namesBound pw (hE w.params) && gensDone (st02 (hE w.params) 538 os) && laidKept (boot_heap w.params) (hE w.params)) = true := by kernel_rfl
theorem hx_seen (w : World) (os : OsState) : openSeen view02 loose02 (importedModules pw.main.body) Xt02 true (st02 (hE w.params) 538 os) = openGood view02 loose02 := by kernel_rfl
theorem hx_hook (w : World) (os : OsState) : hook02.obs (st02 (hE w.params) 538 os) = hook02.val w := by kernel_rfl
theorem hx_left : LeftO pw view02 loose02 Xt02 hook02.obs hook02.val 2200 :=
  LeftO.of_pieces (boot_open hx_open rfl hx_fence) hx_size hx_run rfl fun w => funext fun os => Prod.ext (hx_stat w os) (Prod.ext (hx_seen w os) (hx_hook w os))
theorem hx_said : OpenLaw.wellSaid row02 = true := by kernel_rfl
noncomputable def d02 : DefRec := ⟨"law", argsOf (defAt pw 64), bodyOf (defAt pw 64), scopeOf (defAt pw 64), ⟨159, 0, 184, 47⟩⟩
theorem hx_head (call : WalkO view02 loose02 (XL view02 []) hook02.says row02.row.toRowW d02 [] fun f vs => PySem.call f vs) : row02.Holds :=
  holds_law hx_said fun said => holds_open (q := view02) (loose := loose02) (Xt := Xt02) (XP := XL view02 []) (Yf := hook02.obs) (Ya := hook02.val) (YP := hook02.says) (N := 2200) hx_left hook02.of hook02.keeps (fun s e => xl_of s (Bool.and_eq_true_iff.mp e).1) XL.keeps
    (by kernel_rfl) (by kernel_rfl) (by kernel_rfl) (fun s e => recFacts_of (Bool.and_eq_true_iff.mp e).2) rfl said (by kernel_rfl) ⟨rfl, rfl, rfl, rfl, rfl, by kernel_rfl⟩ (by w_witness2) call
end Mine
namespace Mine
open PySem PySem.W PyProof.Rows

theorem assoc_mem {α : Type} {l : List (Str × α)} {f : Str} {a : α} (e : l.lookup f = some a) : (f, a) ∈ l := by
  induction l with
  | nil => cases e
  | cons p r ih =>
    rw [List.lookup_cons] at e
    cases hb : f == p.1 with
    | true => rw [hb] at e; injection e with e; rw [beq_iff_eq.mp hb, ← e]; exact .head _
    | false => rw [hb] at e; exact .tail _ (ih e)

/-- a written-out namespace -/
noncomputable def nsK (K : Frag) (a : Addr) (x : Str) : Option Value := (nsIn K a x).getD none
noncomputable def entK (e : DictEntry) : Bool := match e.key with
  | .str _ _ => true
  | _ => false
theorem entK_is {e : DictEntry} (h : entK e = true) : ∃ s t, e.key = .str s t := by
  obtain ⟨_, k, _⟩ := e
  cases k with
  | str s t => exact ⟨s, t, rfl⟩
  | _ => exact Bool.noConfusion h
theorem ns_of_K {K : Frag} {h : Heap} {a : Addr} {cl : Value} {dx : Option Addr} {es : Array DictEntry} {n : Nat} {sl : Array (Option Value)} (X : K.In h) (q : K.lookup a = some ⟨cl, dx, .dict es n, sl⟩) (e : es.toList.all entK = true) : h.Ns a (nsK K a) := by
  refine ⟨_, es, n, X _ _ q, rfl, fun x hx => entK_is (List.all_eq_true.mp e x (Array.mem_def.mp hx)), fun name => ?_⟩
  unfold nsFind findBy nsK nsIn
  rw [q, ← Array.find?_toList]
  show _ = Option.getD (match es.toList.find? (fun x => x.key.isStr name) with
    | some e => some (some e.val)
    | none => if (es.toList.any fun x => x.refKey) = true then none else some none) none
  cases es.toList.find? (fun e => e.key.isStr name) with
  | some x => rfl
  | none => show none = Option.getD (if (es.toList.any fun x => x.refKey) = true then none else some none) none; split <;> rfl
theorem codeRec_of {K : Frag} {h : Heap} {c : Addr} {q : Str} {cl : Value} {dx : Option Addr} {vs : Array Value} {sl : Array (Option Value)} {t : Tok} (X : K.In h) (e : K.lookup c = some ⟨cl, dx, .fields vs, sl⟩) (e' : vs[1]? = some (.str q t)) : h.CodeRec (.ref c) q := ⟨c, _, vs, t, rfl, X _ _ e, rfl, e'⟩

/-- the addresses of the text's own functions -/
noncomputable def fnVof (l : List (Str × Addr)) (f : Str) : Option Value := (l.lookup f).map .ref
/-- a written-out value of a constant, of a function -/
noncomputable def isIntV (i : Int) (v : Option Value) : Bool := match v with
  | some (.int j _) => i == j
  | _ => false
noncomputable def isRefV (a : Option Addr) (v : Option Value) : Bool := match v with
  | some (.ref b) => a == some b
  | _ => false
noncomputable def sameBi (v : Option Value) (u : Value) : Bool := match v, u with
  | some (.builtin a), .builtin b => a == b
  | some (.type a), .type b => a == b
  | _, _ => false
theorem isIntV_is {i : Int} {v : Option Value} (h : isIntV i v = true) : ∃ t, v = some (.int i t) := by
  cases v with
  | none => exact Bool.noConfusion h
  | some v =>
    cases v with
    | int j t => exact ⟨t, by rw [beq_iff_eq.mp (show (i == j) = true from h)]⟩
    | _ => exact Bool.noConfusion h
theorem isRefV_is {a : Option Addr} {v : Option Value} (h : isRefV a v = true) : ∃ b, v = some (.ref b) ∧ a = some b := by
  cases v with
  | none => exact Bool.noConfusion h
  | some v =>
    cases v with
    | ref b => exact ⟨b, rfl, beq_iff_eq.mp (show (a == some b) = true from h)⟩
    | _ => exact Bool.noConfusion h
theorem sameBi_is {u : Value} {v : Option Value} (h : sameBi v u = true) : v = some u := by
  cases v with
  | none => exact Bool.noConfusion h
  | some v =>
    cases v with
    | builtin a =>
      cases u with
      | builtin b => rw [beq_iff_eq.mp (show (a == b) = true from h)]
      | _ => exact Bool.noConfusion h
    | type a =>
      cases u with
      | type b => rw [beq_iff_eq.mp (show (a == b) = true from h)]
      | _ => exact Bool.noConfusion h
    | _ => exact Bool.noConfusion h
noncomputable def chkG (K : Frag) (l : List (Str × Addr)) (p : Str × AV) : Bool := match p.2 with
  | .int i => isIntV i (nsK K mainGlobals p.1)
  | .glob n => n == p.1 && isRefV (l.lookup p.1) (nsK K mainGlobals p.1)
  | .bi f => (nsK K mainGlobals p.1).isNone && (p.1 != "__name__" && sameBi (bootBuiltins p.1) (biV f))
  | _ => false

section
variable {T : Tp}
theorem glob_rep {p : Program} {K : Frag} {l : List (Str × Addr)} {mb : Str → Option Value} (hT : T.fnV = fnVof l) (hb : ∀ x : Str, x ≠ "__name__" → mb x = bootBuiltins x) (hc : (globL p).all (chkG K l) = true)
    (hE : ∀ v, globOf p "EXACT_TOKEN_TYPES" = some v → ∃ u, nsK K mainGlobals "EXACT_TOKEN_TYPES" = some u ∧ ∀ x σ, Inv T x σ → Rep T x v u) {n : Str} {v : AV} (h : globOf p n = some v) :
    ∃ u, (nsK K mainGlobals n = some u ∨ (nsK K mainGlobals n = none ∧ mb n = some u)) ∧ ∀ x σ, Inv T x σ → Rep T x v u := by
  by_cases hx : n = "EXACT_TOKEN_TYPES"
  · subst hx
    obtain ⟨u, h1, h2⟩ := hE v h
    exact ⟨u, .inl h1, h2⟩
  have e := List.all_eq_true.mp hc (n, v) (assoc_mem ((if_neg hx).symm.trans h))
  cases v with
  | int i => obtain ⟨t, e⟩ := isIntV_is e; exact ⟨_, .inl e, fun _ _ _ => ⟨t, rfl⟩⟩
  | glob m =>
    obtain ⟨e1, e2⟩ := Bool.and_eq_true_iff.mp e
    obtain ⟨b, e2, e3⟩ := isRefV_is e2
    refine ⟨_, .inl e2, fun _ _ _ => ?_⟩
    show T.fnV m = some (.ref b)
    rw [hT, beq_iff_eq.mp e1, fnVof, e3]; rfl
  | bi f =>
    obtain ⟨e1, e2⟩ := Bool.and_eq_true_iff.mp e
    obtain ⟨e2, e3⟩ := Bool.and_eq_true_iff.mp e2
    exact ⟨_, .inr ⟨Option.isNone_iff_eq_none.mp e1, (hb n (bne_iff_ne.mp e2)).trans (sameBi_is e3)⟩, fun _ _ _ => rfl⟩
  | _ => exact Bool.noConfusion e

noncomputable def isFnO (o : Option Obj) : Bool := match o with
  | some ⟨_, _, .func _, _⟩ => true
  | _ => false
theorem isFnO_is {o : Option Obj} (h : isFnO o = true) : ∃ o' fd, o = some o' ∧ o'.data = .func fd := by
  cases o with
  | none => exact Bool.noConfusion h
  | some o =>
    obtain ⟨_, _, dt, _⟩ := o
    cases dt with
    | func fd => exact ⟨_, fd, rfl, rfl⟩
    | _ => exact Bool.noConfusion h
theorem cw_chk {K : Frag} {l : List (Str × Addr)} (X : K.In T.h₀) (hT : T.fnV = fnVof l) (hc : (l.all fun p => p.2 == T.C || isFnO (K.lookup p.2)) = true) {f : Str} {u : Value} (h : T.fnV f = some u) : u = .ref T.C ∨ ∃ a o fd, u = .ref a ∧ T.h₀.get? a = some o ∧ o.data = .func fd := by
  rw [hT, fnVof, Option.map_eq_some_iff] at h
  obtain ⟨a, h1, rfl⟩ := h
  refine (Bool.or_eq_true_iff.mp (List.all_eq_true.mp hc (f, a) (assoc_mem h1))).imp (fun e => congrArg Value.ref (beq_iff_eq.mp e)) fun e => ?_
  obtain ⟨o, fd, e1, e2⟩ := isFnO_is e
  exact ⟨a, o, fd, rfl, X _ _ e1, e2⟩

/-- a written-out dict of strs to ints -/
noncomputable def dictEs (P : Params) : List Str → List (Tok × Int × Tok) → List DictEntry
  | k :: ks, (t, i, u) :: r => { hash := PyData.keyHash P k, key := .str k t, val := .int i u } :: dictEs P ks r
  | _, _ => []
theorem dict_pairs {prog : Program} {w : World} {ks : List Str} {r : List (Tok × Int × Tok)} (h : ks.length = r.length) :
    (∀ e ∈ dictEs w.params ks r, ∃ k, (PySem.strKind prog w).is k e.key = true ∧ e.hash = (PySem.strKind prog w).hash k) ∧ Pairs (PySem.strKind prog w) (dictEs w.params ks r) (ks.zip (r.map fun x => Value.int x.2.1 x.2.2)) := by
  induction ks generalizing r with
  | nil => exact ⟨fun e he => absurd he List.not_mem_nil, .nil⟩
  | cons k ks ih =>
    cases r with
    | nil => exact Nat.noConfusion h
    | cons x r =>
      obtain ⟨h1, h2⟩ := ih (Nat.succ.inj h)
      have hk : Value.isStrOf k (.str k x.1) = true := beq_self_eq_true k
      exact ⟨List.forall_mem_cons.mpr ⟨⟨k, hk, rfl⟩, h1⟩, .cons hk rfl h2⟩
theorem ints_rep {x : St} {r : List (Tok × Int × Tok)} : RepL T x (r.map fun x => AV.int x.2.1) (r.map fun x => Value.int x.2.1 x.2.2) := by
  induction r with
  | nil => rfl
  | cons y r ih => exact ⟨_, _, rfl, ⟨y.2.2, rfl⟩, ih⟩
theorem dict_rep {a : Addr} {ep : Nat} {ks : List Str} {r : List (Tok × Int × Tok)} (ho : T.h₀.get? a = some { cls := .type "dict", data := .dict (dictEs T.w.params ks r).toArray ep }) (hl : ks.length = r.length) (hn : ks.Nodup) (ha : (a == sysModules) = false)
    {x : St} {σ : Sto} (I : Inv T x σ) : Rep T x (.dict (.ks ks) (r.map fun x => AV.int x.2.1)) (.ref a) := by
  obtain ⟨h1, h2⟩ := dict_pairs (prog := T.prog) (w := T.w) hl
  have hz : ((ks.zip (r.map fun x => Value.int x.2.1 x.2.2)).map (·.1)) = ks := List.map_fst_zip (by rw [List.length_map, hl]; exact Nat.le_refl _)
  exact ⟨a, r.map fun x => Value.int x.2.1 x.2.2, rfl, ha, (I.base _ _ ho).2, ⟨hl.trans (List.length_map _).symm, _, _, _, (I.base _ _ ho).1, ⟨rfl, rfl, rfl⟩, rfl, fun e he => h1 e (List.mem_toArray.mp he), h2, hz.symm ▸ hn⟩, ints_rep⟩
end
end Mine
namespace Mine
open PySem PySem.W PyProof.Rows

noncomputable abbrev Dx := Option (Arguments × List Stmt × Scope)
noncomputable def parsOf (x : Dx) : List Str := (argsOf x).args.map (·.arg)
noncomputable def plainSc (sc : Scope) : Bool := !sc.isCoroutine && (!sc.isGenerator && sc.kind == .function)
/-- a method's text is plain -/
noncomputable def fdOk (x : Dx) (ps : List Str) : Bool := plainSc (scopeOf x) && (ps.all (fun n => (scopeOf x).names.lookup n == some .local) && ((scopeOf x).names.all (fun n => n.2 != .cell) && decide ps.Nodup))
/-- a def's text is plain -/
noncomputable def dfOk (x : Dx) : Bool := plainSc (scopeOf x) && (okScope (scopeOf x) && ((scopeOf x).names.all (fun n => n.2 != .free) && ((parsOf x).all (fun n => (scopeOf x).names.lookup n == some .local || (scopeOf x).names.lookup n == some .cell) && decide (parsOf x).Nodup)))
theorem plainSc_is {sc : Scope} (h : plainSc sc = true) : sc.isCoroutine = false ∧ sc.isGenerator = false ∧ sc.kind = .function :=
  have h := Bool.and_eq_true_iff.mp h
  have h2 := Bool.and_eq_true_iff.mp h.2
  ⟨(Bool.not_eq_true' _).mp h.1, (Bool.not_eq_true' _).mp h2.1, beq_iff_eq.mp h2.2⟩

section
variable {K : Frag} {h : Heap} {x : Dx} {a c : Addr} {n q : Str} {md : Value} {ps : List Str}
variable {cn : Str} {t line na fl r r2 t2 : Nat} {b : Bool} {m : List Value}
theorem code_of (X : K.In h) (e : K.lookup c = some (codO cn q t line na fl r b r2 m t2)) : h.CodeRec (.ref c) q := ⟨c, _, _, _, rfl, X _ _ e, rfl, rfl⟩
theorem fdAt_of (X : K.In h) (ho : K.lookup a = some (fnO x n q md c)) (hc : K.lookup c = some (codO cn q t line na fl r b r2 m t2)) (ok : fdOk x ps = true)
    (hb : ∀ vs : List Value, vs.length = ps.length → bindArgs (fnD x n q 3 md (.ref c)) ⟨vs, []⟩ = pure (ps.zip vs)) : FdAt h a (fnD x n q 3 md (.ref c)) (bodyOf x) ps :=
  have k := Bool.and_eq_true_iff.mp ok
  have k2 := Bool.and_eq_true_iff.mp k.2
  have k3 := Bool.and_eq_true_iff.mp k2.2
  have p := plainSc_is k.1
  ⟨⟨_, X _ _ ho, rfl, rfl⟩, code_of X hc, rfl, rfl, rfl, p.1, p.2.1, p.2.2, hb, fun n hn => beq_iff_eq.mp (List.all_eq_true.mp k2.1 n hn), fun n hn => bne_iff_ne.mp (List.all_eq_true.mp k3.1 n hn), of_decide_eq_true k3.2⟩
theorem defOk_of {T : Tp} (X : K.In T.h₀) (hV : T.fnV n = some (.ref a)) (ho : K.lookup a = some (fnO x n n md c)) (hc : K.lookup c = some (codO cn n t line na fl r b r2 m t2)) (ok : dfOk x = true)
    (hb : ∀ vs : List Value, vs.length = (parsOf x).length → bindArgs (fnD x n n 3 md (.ref c)) ⟨vs, []⟩ = pure ((parsOf x).zip vs)) : DefOk T n ⟨parsOf x, bodyOf x, scopeOf x⟩ :=
  have k := Bool.and_eq_true_iff.mp ok
  have k2 := Bool.and_eq_true_iff.mp k.2
  have k3 := Bool.and_eq_true_iff.mp k2.2
  have k4 := Bool.and_eq_true_iff.mp k3.2
  have p := plainSc_is k.1
  ⟨⟨a, _, md, _, .none, argsOf x, hV, X _ _ ho, rfl, code_of X hc, hb⟩, p.1, p.2.1, k2.1, fun n hn => bne_iff_ne.mp (List.all_eq_true.mp k3.1 n hn), fun n hn => (Bool.or_eq_true_iff.mp (List.all_eq_true.mp k4.1 n hn)).imp beq_iff_eq.mp beq_iff_eq.mp, of_decide_eq_true k4.2⟩
end
/-- a list of known length -/
theorem len1 {α : Type} {P : List α → Prop} (k : ∀ a, P [a]) : ∀ vs : List α, vs.length = 1 → P vs
  | [a], _ => k a
theorem len2 {α : Type} {P : List α → Prop} (k : ∀ a b, P [a, b]) : ∀ vs : List α, vs.length = 2 → P vs
  | [a, b], _ => k a b
theorem len3 {α : Type} {P : List α → Prop} (k : ∀ a b c, P [a, b, c]) : ∀ vs : List α, vs.length = 3 → P vs
  | [a, b, c], _ => k a b c
theorem len4 {α : Type} {P : List α → Prop} (k : ∀ a b c d, P [a, b, c, d]) : ∀ vs : List α, vs.length = 4 → P vs
  | [a, b, c, d], _ => k a b c d

noncomputable def fl02 : List (Str × Addr) := [("_netrclex", 52), ("ISTERMINAL", 66), ("ISNONTERMINAL", 73), ("ISEOF", 80), ("_law_stream", 87), ("_law_written", 92), ("_law_symbol", 99), ("_law_answers", 106), ("_law_there", 113), ("_law_due", 118), ("law", 123),
  ("_read_char", 35), ("get_token", 42), ("push_token", 49)]
noncomputable def tp02 (w : World) (h : Heap) : Tp := { prog := pw, w := w, h₀ := h, fnV := fnVof fl02, C := 52, tabA := 82, StreamObjs := StreamIs pw si }
noncomputable abbrev cfg02 : Cfg := cfg false sk2 pw mu2 fz2

section
variable {w : World} {h : Heap} {mb : Str → Option Value}
theorem lex02 (X : (K02 w.params).In h) (hlim : h.NoLimit) : LexTop (tp02 w h) 51 (nsK (K02 w.params) 51) where
  cls := ⟨⟨"_netrclex", "_netrclex", [.type "object"], [], [], none, none, none, none, some (.str "_netrclex" 189), some (.str "_netrclex" 197), some (.bool true), X 52 _ (by kernel_rfl)⟩, ns_of_K X (a := 51) (show (K02 w.params).lookup 51 = some (o_87 w.params) by kernel_rfl) (by kernel_rfl)⟩
  nolimit := hlim
  no := have c {p : Str → Prop} {a : Str} {l : List Str} (h : p a) (hs : ∀ x ∈ l, p x) : ∀ x ∈ a :: l, p x := List.forall_mem_cons.mpr ⟨h, hs⟩
    c (by kernel_rfl) (c (by kernel_rfl) (c (by kernel_rfl) (c (by kernel_rfl) (c (by kernel_rfl) (c (by kernel_rfl) (c (by kernel_rfl) fun _ h => absurd h List.not_mem_nil))))))
  meth := have c {p : Str → Prop} {a : Str} {l : List Str} (h : p a) (hs : ∀ x ∈ l, p x) : ∀ x ∈ a :: l, p x := List.forall_mem_cons.mpr ⟨h, hs⟩
    c ⟨42, _, o_78, by kernel_rfl, by kernel_rfl, X 42 _ (by kernel_rfl), rfl, rfl⟩ (c ⟨49, _, o_85, by kernel_rfl, by kernel_rfl, X 49 _ (by kernel_rfl), rfl, rfl⟩ (c ⟨35, _, o_71, by kernel_rfl, by kernel_rfl, X 35 _ (by kernel_rfl), rfl, rfl⟩ fun _ h => absurd h List.not_mem_nil))
theorem init02 (X : (K02 w.params).In h) : FdAt h 28 (fnD (methAt pw ci 0) "__init__" "_netrclex.__init__" 3 (.str "cpy313.netrc" 187) (.ref 27)) (bodyOf (methAt pw ci 0)) ["self", "fp"] :=
  fdAt_of X (show (K02 w.params).lookup 28 = some o_64 by kernel_rfl) (show (K02 w.params).lookup 27 = some o_63 by kernel_rfl) (by kernel_rfl) (len2 fun a b => by kernel_rfl)
theorem read02 (X : (K02 w.params).In h) : ∃ a fd, MethOk (tp02 w h) 1 "_read_char" ["self"] a fd :=
  ⟨35, _, fdAt_of X (show (K02 w.params).lookup 35 = some o_71 by kernel_rfl) (show (K02 w.params).lookup 34 = some o_70 by kernel_rfl) (by kernel_rfl) (len1 fun a => by kernel_rfl), rfl, rfl, by kernel_rfl⟩
theorem get02 (X : (K02 w.params).In h) : ∃ a fd, MethOk (tp02 w h) 2 "get_token" ["self"] a fd :=
  ⟨42, _, fdAt_of X (show (K02 w.params).lookup 42 = some o_78 by kernel_rfl) (show (K02 w.params).lookup 41 = some o_77 by kernel_rfl) (by kernel_rfl) (len1 fun a => by kernel_rfl), rfl, rfl, by kernel_rfl⟩
theorem push02 (X : (K02 w.params).In h) : ∃ a fd, MethOk (tp02 w h) 3 "push_token" ["self", "token"] a fd :=
  ⟨49, _, fdAt_of X (show (K02 w.params).lookup 49 = some o_85 by kernel_rfl) (show (K02 w.params).lookup 48 = some o_84 by kernel_rfl) (by kernel_rfl) (len2 fun a b => by kernel_rfl), rfl, rfl, by kernel_rfl⟩

noncomputable def defOf (p : Program) (i : Nat) : Def := ⟨parsOf (defAt p i), bodyOf (defAt p i), scopeOf (defAt p i)⟩
noncomputable abbrev D02 (w : World) (h : Heap) (n : Str) (i : Nat) : Prop := DefOk (tp02 w h) n (defOf pw i)
theorem d02_54 (X : (K02 w.params).In h) : D02 w h "ISTERMINAL" 54 :=
  defOk_of (T := tp02 w h) X (by kernel_rfl) (show (K02 w.params).lookup 66 = some o_110 by kernel_rfl) (show (K02 w.params).lookup 65 = some o_109 by kernel_rfl) (by kernel_rfl) (len1 fun a => by kernel_rfl)
theorem d02_55 (X : (K02 w.params).In h) : D02 w h "ISNONTERMINAL" 55 :=
  defOk_of (T := tp02 w h) X (by kernel_rfl) (show (K02 w.params).lookup 73 = some o_117 by kernel_rfl) (show (K02 w.params).lookup 72 = some o_116 by kernel_rfl) (by kernel_rfl) (len1 fun a => by kernel_rfl)
theorem d02_56 (X : (K02 w.params).In h) : D02 w h "ISEOF" 56 :=
  defOk_of (T := tp02 w h) X (by kernel_rfl) (show (K02 w.params).lookup 80 = some o_124 by kernel_rfl) (show (K02 w.params).lookup 79 = some o_123 by kernel_rfl) (by kernel_rfl) (len1 fun a => by kernel_rfl)
theorem d02_59 (X : (K02 w.params).In h) : D02 w h "_law_written" 59 :=
  defOk_of (T := tp02 w h) X (by kernel_rfl) (show (K02 w.params).lookup 92 = some o_136 by kernel_rfl) (show (K02 w.params).lookup 91 = some o_135 by kernel_rfl) (by kernel_rfl) (len3 fun a b c => by kernel_rfl)
theorem d02_60 (X : (K02 w.params).In h) : D02 w h "_law_symbol" 60 :=
  defOk_of (T := tp02 w h) X (by kernel_rfl) (show (K02 w.params).lookup 99 = some o_143 by kernel_rfl) (show (K02 w.params).lookup 98 = some o_142 by kernel_rfl) (by kernel_rfl) (len2 fun a b => by kernel_rfl)
theorem d02_61 (X : (K02 w.params).In h) : D02 w h "_law_answers" 61 :=
  defOk_of (T := tp02 w h) X (by kernel_rfl) (show (K02 w.params).lookup 106 = some o_150 by kernel_rfl) (show (K02 w.params).lookup 105 = some o_149 by kernel_rfl) (by kernel_rfl) (len4 fun a b c d => by kernel_rfl)
theorem d02_62 (X : (K02 w.params).In h) : D02 w h "_law_there" 62 :=
  defOk_of (T := tp02 w h) X (by kernel_rfl) (show (K02 w.params).lookup 113 = some o_157 by kernel_rfl) (show (K02 w.params).lookup 112 = some o_156 by kernel_rfl) (by kernel_rfl) (len3 fun a b c => by kernel_rfl)
theorem d02_63 (X : (K02 w.params).In h) : D02 w h "_law_due" 63 :=
  defOk_of (T := tp02 w h) X (by kernel_rfl) (show (K02 w.params).lookup 118 = some o_162 by kernel_rfl) (show (K02 w.params).lookup 117 = some o_161 by kernel_rfl) (by kernel_rfl) (len2 fun a b => by kernel_rfl)
theorem d02_64 (X : (K02 w.params).In h) : D02 w h "law" 64 :=
  defOk_of (T := tp02 w h) X (by kernel_rfl) (show (K02 w.params).lookup 123 = some o_167 by kernel_rfl) (show (K02 w.params).lookup 122 = some o_166 by kernel_rfl) (by kernel_rfl) (len1 fun a => by kernel_rfl)

theorem defL02 : pw.main.body.filterMap stDef = ([("ISTERMINAL", defOf pw 54), ("ISNONTERMINAL", defOf pw 55), ("ISEOF", defOf pw 56), ("_law_stream", defOf pw 58), ("_law_written", defOf pw 59), ("_law_symbol", defOf pw 60), ("_law_answers", defOf pw 61), ("_law_there", defOf pw 62), ("_law_due", defOf pw 63), ("law", defOf pw 64)] : List (Str × Def)) := by kernel_rfl
theorem defs02 (X : (K02 w.params).In h) (f : Str) (d : Def) (hd : Mine.defsOf pw f = some d) (hne : f ≠ "_law_stream") : DefOk (tp02 w h) f d := by
  have hm := assoc_mem hd
  rw [defL02] at hm
  have c {p : Str × Def → Prop} {a : Str × Def} {l : List (Str × Def)} (h : p a) (hs : ∀ x ∈ l, p x) : ∀ x ∈ a :: l, p x := List.forall_mem_cons.mpr ⟨h, hs⟩
  exact (c (p := fun x => x.1 ≠ "_law_stream" → DefOk (tp02 w h) x.1 x.2) (fun _ => d02_54 X) (c (fun _ => d02_55 X) (c (fun _ => d02_56 X) (c (fun q => absurd rfl q) (c (fun _ => d02_59 X) (c (fun _ => d02_60 X) (c (fun _ => d02_61 X) (c (fun _ => d02_62 X) (c (fun _ => d02_63 X) (c (fun _ => d02_64 X) fun _ h => absurd h List.not_mem_nil)))))))))) _ hm hne

noncomputable def ks02 : List Str := match globOf pw "EXACT_TOKEN_TYPES" with
  | some (.dict (.ks ks) _) => ks
  | _ => []
noncomputable def rsE (e : DictEntry) : Tok × Int × Tok := match e.key, e.val with
  | .str _ t, .int i u => (t, i, u)
  | _, _ => (0, 0, 0)
noncomputable def rs02 (P : Params) : List (Tok × Int × Tok) := match (o_96 P).data with
  | .dict es _ => es.toList.map rsE
  | _ => []
theorem exact02 (X : (K02 w.params).In h) (v : AV) (e : globOf pw "EXACT_TOKEN_TYPES" = some v) : ∃ u, nsK (K02 w.params) mainGlobals "EXACT_TOKEN_TYPES" = some u ∧ ∀ x σ, Inv (tp02 w h) x σ → Rep (tp02 w h) x v u := by
  have e2 : globOf pw "EXACT_TOKEN_TYPES" = some (.dict (.ks ks02) ((rs02 w.params).map fun x => AV.int x.2.1)) := by kernel_rfl
  cases e2.symm.trans e
  exact ⟨.ref 57, by kernel_rfl, fun x σ I => dict_rep (T := tp02 w h) (ep := 48) (X 57 _ (by kernel_rfl)) (by kernel_rfl) (by decide +kernel) (by decide) I⟩

theorem stream02 (X : (K02 w.params).In h) (hlim : h.NoLimit) (hbm : h.BuiltinsAt (nsK (K02 w.params) mainGlobals) 82) (hcd : CodeHd h 86 82) : StreamTop (tp02 w h) 82 (.str "law_ph0119_02" 467) where
  fn := ⟨87, o_131, .ref 86, .none, 86, by kernel_rfl, X 87 _ (by kernel_rfl), rfl, code_of X (show (K02 w.params).lookup 86 = some o_130 by kernel_rfl), rfl, hcd⟩
  top := ⟨_, ns_of_K X (a := mainGlobals) (show (K02 w.params).lookup 3 = some (o_102 w.params) by kernel_rfl) (by kernel_rfl), hbm⟩
  nolimit := hlim
  objs := rfl

theorem topOk02 (X : (K02 w.params).In h) (hlim : h.NoLimit) (hsys : h.get? sysModules ≠ none) (hb : h.Ns builtinsNs mb) (hbb : ∀ x : Str, x ≠ "__name__" → mb x = bootBuiltins x) : TopOk (tp02 w h) cfg02 where
  sys := hsys
  nolimit := hlim
  ns := ⟨_, mb, ns_of_K X (a := mainGlobals) (show (K02 w.params).lookup 3 = some (o_102 w.params) by kernel_rfl) (by kernel_rfl), hb, fun x v e => glob_rep (T := tp02 w h) (l := fl02) rfl hbb (by kernel_rfl) (exact02 X) e⟩
  meth := fun I hg hn hQ => lex_meth (lex02 X hlim) I hg hn hQ
  attr := fun I R h kt => lex_attr (lex02 X hlim) I R h kt
  cw := fun hu hQ hp => cw_ok (lex02 X hlim).cls (cw_chk (T := tp02 w h) (l := fl02) X rfl (by kernel_rfl) hu) hQ hp

theorem text02 (X : (K02 w.params).In h) (hlim : h.NoLimit) (hsys : h.get? sysModules ≠ none) (hb : h.Ns builtinsNs mb) (hbb : ∀ x : Str, x ≠ "__name__" → mb x = bootBuiltins x) (hbm : h.BuiltinsAt (nsK (K02 w.params) mainGlobals) 82) (hcd : CodeHd h 86 82) :
    TextOk (tp02 w h) cfg02 51 (nsK (K02 w.params) 51) (.str "law_ph0119_02" 467) where
  O := topOk02 X hlim hsys hb hbb
  X := lex02 X hlim
  S := stream02 X hlim hbm hcd
  it := by kernel_rfl
  init := ⟨28, _, init02 X, rfl, by kernel_rfl⟩
  read := read02 X
  get := get02 X
  push := push02 X
  cls := by kernel_rfl
  defs := defs02 X
end
end Mine
namespace Mine
open PySem PySem.W PyProof.Rows

noncomputable def σ₀ : Sto := ⟨fun l => if l = 0 then some (.tab true) else none, 1⟩

theorem ints_repL {T : Tp} {x : St} {vs : List Value} {zs : List Int} (h : IntsAre vs zs) : RepL T x (zs.map AV.int) vs := by
  induction h with
  | nil => rfl
  | cons _ t r ih => exact ⟨_, _, rfl, ⟨t, rfl⟩, ih⟩
theorem list_rep {T : Tp} {P : Params} {x : St} {la : Addr} {its : List Value} {zs : List Int} (hL : x.h.IsList la its.toArray) (hW : Well P x.h (.ref la) (ofPy (.list (zs.map PyData.int)))) (hI : IntsAre its zs) (hlen : zs.length ≤ 63)
    (hκ : ∀ a, x.h.get? la = some { cls := .type "list", data := .seq a } → x.κ la = .fz) : Rep T x (.list (zs.map .int)) (.ref la) := by
  obtain ⟨o, e, hc, k, hd⟩ := hL
  obtain ⟨ys, hof⟩ : ∃ ys, ofPy (.list (zs.map PyData.int)) = .list ys := ⟨_, by rw [ofPy]⟩
  rw [hof] at hW
  cases hW with
  | list e2 _ =>
    have e3 := e
    rw [e2] at e3
    injection e3 with e3
    subst e3
    injection hd with hd1 hd2
    have hd1' := congrArg Array.toList hd1
    simp only at hd1'
    subst hd1' hd2
    exact ⟨la, _, _, rfl, hκ _ e, e, by rw [List.length_map]; exact Nat.le_trans hlen (by decide), ints_repL hI⟩

/-- where the call begins -/
noncomputable def st0 (s : Shared) : St := ⟨s, fun a => if a = 82 then .ob 0 else .fz, fun _ => 82, 1⟩
set_option maxHeartbeats 8000000 in
theorem law02_of (pure : ∀ zs : List Int, zs.length ≤ 63 → Sat (fns cfg02 (Mine.defsOf pw) 10 "law" [.list (zs.map .int)] σ₀) fun r => r.1 = .bool true ∧ ∃ b, r.2.get 0 = some (.tab b)) : row02.Holds := by
  refine hx_head ?_
  intro w s₀ s₁ mg mb G Y fa o pm cd doc dV kV ho hd hcd hD hmg hg args vals as hpre hlay hrd hwl hlo
  have KX : (K02 w.params).In s₁.heap := Y.1
  have hT8 : ∀ P ∈ [82], s₁.heap.get? P = some (tabObj #[]) := Y.2
  have T := Ground.T G
  have hT9 : TabsAt [(86, 82)] s₁.heap := List.forall_mem_cons.mpr ⟨⟨codeHd_of_K (c := 86) (P := 82) KX (by kernel_rfl), hT8 82 (.head _)⟩, fun _ h => absurd h List.not_mem_nil⟩
  wrow_args hpre hlay hrd hwl hlo
  clear hd hD Y G
  rename List Int => zs
  rename s₁.heap.IsList _ _ => hL
  rename IntsAre _ _ => hI
  have hfa : fa = 123 := by
    have := hmg.symm.trans (mg_of KX T.g (n := "law") (v := .ref 123) (by kernel_rfl))
    injection this with this
    injection this
  subst hfa
  rename Well w.params s₁.heap _ _ => hW
  rename ¬ (_ < _) => hlen
  have hlen : zs.length ≤ 63 := Int.ofNat_le.mp (Int.not_lt.mp hlen)
  generalize hh : ghostOf s₁.heap [(86, 82)] = h₀
  have X' : (K02 w.params).In h₀ := hh ▸ ghost_K hT9 KX (by kernel_rfl)
  have hlim : h₀.NoLimit := by obtain ⟨mc, a, r⟩ := T.nolimit; exact ⟨mc, hh ▸ ghost_ns hT9 a, r⟩
  have hsys : h₀.get? sysModules ≠ none := by
    obtain ⟨mm, z, _⟩ := (T.seer (by kernel_rfl)).mods
    obtain ⟨o, _, _, e, _⟩ := ghost_ns hT9 z
    rw [← hh, e]
    exact fun q => by cases q
  have hbm : h₀.BuiltinsAt (nsK (K02 w.params) mainGlobals) 82 := by
    obtain ⟨bm, ob, e1, e2, e3, e4, e5, e6⟩ := T.bmain
    have e1 := e1.symm.trans (mg_of KX T.g (n := "__builtins__") (v := .ref 4) (by kernel_rfl))
    injection e1 with e1
    injection e1 with e1
    subst e1
    exact ⟨4, ob, by kernel_rfl, e2, by decide, by decide, hh ▸ ghost_get hT9 e3 (by rintro rfl; cases e4), e4, e5, e6⟩
  have TX := text02 X' hlim hsys (hh ▸ ghost_ns hT9 T.b) T.builtins hbm (hh ▸ (ghost_code hT9).1)
  have hP : s₁.heap.get? 82 = some (tabObj #[]) := hT8 82 (.head _)
  have h82 : h₀.get? 82 = none := by rw [← hh]; exact hideAll_none _ (.head _)
  have hold : ∀ b o, h₀.get? b = some o → s₁.heap.get? b = some o := fun b o e => by rw [← hh] at e; exact of_hideAll _ e
  have I : Inv (tp02 w h₀) (st0 s₁) σ₀ := by
    have at0 : ∀ l o, σ₀.get l = some o → l = 0 ∧ o = .tab true := fun l o e => by
      by_cases hl : l = 0
      · have e : some (AObj.tab true) = some o := (if_pos hl).symm.trans e
        injection e with e
        exact ⟨hl, e.symm⟩
      · exact none_some (if_neg hl) e
    refine ⟨fun a o e => ⟨hold a o e, if_neg fun q => none_some h82 (q ▸ e)⟩, fun l o e => (at0 l o e).1 ▸ Nat.zero_lt_one, fun l o e => ?_, rfl⟩
    obtain ⟨rfl, rfl⟩ := at0 l o e
    exact ⟨rfl, rfl, #[], hP, fun _ => rfl⟩
  have hrun := pure zs hlen
  have hcall : Sat ((defOf pw 64).call cfg02 (fns cfg02 (Mine.defsOf pw) 9) [.list (zs.map .int)] σ₀) fun r => r.1 = .bool true ∧ ∃ b, r.2.get 0 = some (.tab b) := by
    rw [show fns cfg02 (Mine.defsOf pw) 10 "law" [.list (zs.map .int)] σ₀ = (Mine.defsOf pw "law").bind fun d => d.call cfg02 (fns cfg02 (Mine.defsOf pw) 9) [.list (zs.map .int)] σ₀ by kernel_rfl, show Mine.defsOf pw "law" = some (defOf pw 64) by kernel_rfl] at hrun
    exact hrun
  have hrep : Rep (tp02 w h₀) (st0 s₁) (.list (zs.map .int)) (.ref _) := list_rep (x := st0 s₁) hL hW hI hlen fun a e => if_neg fun q => by
    subst q
    cases hP.symm.trans e
  refine enter_call (kn_post hT9 (fun _ _ => rfl) (codeAny_mono (def_code (x := st0 s₁) (k := 15) TX.O (fns_ok TX 9) (d02_64 X') hcall ⟨rfl, by decide +kernel, by decide +kernel⟩ I (by kernel_rfl) ⟨_, _, rfl, hrep, rfl⟩
    (Q := fun v s' => ∃ y : St, ∃ r : AV × Sto, y.s = s' ∧ (r.1 = .bool true ∧ ∃ b, r.2.get 0 = some (.tab b)) ∧ Ev (tp02 w h₀) (st0 s₁) r v y) fun r v y h e => ⟨y, r, rfl, h, e⟩) fun r s' q => ?_))
  match r, q with
  | .ok (.ret v), q =>
    obtain ⟨y, r, rfl, ⟨h1, b, h2⟩, E⟩ := q
    have hv := E.R
    rw [h1] at hv
    subst hv
    obtain ⟨hga, _, ps, hps, _⟩ := E.I.objs _ _ h2
    refine ⟨⟨.inl ⟨.bool true, .bool true, [], rfl, fun _ => rfl, .bool true, by kernel_rfl, fun _ => ⟨.nil, fun a ha => by cases ha⟩⟩, fun b o e => ?_, E.S.os, E.S.gens.trans hg⟩, ⟨⟨ps, ?_⟩, trivial⟩⟩
    · rw [show ({ s₁ with heap := ghostOf s₁.heap [(86, 82)] } : Shared).heap = h₀ from hh] at e
      exact (E.I.base b o e).1
    · rw [hga] at hps
      exact hps
end Mine
namespace Mine
open PySem

section
variable {α β : Type} {x : Option α} {P Q : α → Prop}
theorem Sat.eq {a : α} (h : x = some a) (hP : P a) : Sat x P := by rw [h]; exact hP
theorem Sat.bind {f : α → Option β} {R : β → Prop} (h : Sat x fun a => Sat (f a) R) : Sat (x.bind f) R := by cases x <;> exact h
theorem Sat.map {f : α → β} {R : β → Prop} (h : Sat x fun a => R (f a)) : Sat (x.map f) R := by cases x <;> exact h
theorem Sat.mono (h : Sat x P) (k : ∀ a, P a → Q a) : Sat x Q := by
  cases x with
  | none => exact h
  | some a => exact k a h
theorem Sat.ite {c : Prop} [Decidable c] (hc : c) (h : Sat x P) : Sat (if c then x else none) P := by rw [if_pos hc]; exact h
theorem Sat.iff {b : Bool} {y : Option α} (h : if b = true then Sat x P else Sat y P) : Sat (if b = true then x else y) P := by cases b <;> exact h
end

section
variable {c : Cfg} {Φ : Fns} {sc : Scope} {m : Fm} {σ : Sto} {p q r : Pos} {e e1 e2 t : Expr} {es : List Expr} {P : AV × Sto → Prop} {B : Bool × Sto → Prop} {X : Fl × Fm × Sto → Prop}

theorem q_name {x : Str} {v : AV} (h : look c sc m x = some v) (hP : P (v, σ)) : Sat (ev c Φ (.Name x p) sc m σ) P := Sat.map (x := look c sc m x) (.eq h hP)
theorem q_bin {op : Operator} (h : Sat (ev c Φ e1 sc m σ) fun a => Sat (ev c Φ e2 sc m a.2) fun b => Sat (binA c p op a.1 b.1 b.2) P) : Sat (ev c Φ (.BinOp e1 op e2 p) sc m σ) P := Sat.bind (h.mono fun a h => .bind h)
theorem q_cmp {op : CmpOp} (h : Sat (ev c Φ e1 sc m σ) fun a => Sat (ev c Φ e2 sc m a.2) fun b => Sat (cmpA b.2 op a.1 b.1) fun x => P (.bool x, b.2)) : Sat (ev c Φ (.Compare e1 [op] [e2] p) sc m σ) P :=
  Sat.bind (h.mono fun a h => .bind (h.mono fun b h => .map h))
theorem q_list (hl : es.length ≤ 1000) (h : Sat (evs c Φ es sc m σ) fun r => P (mkL c p r.1 r.2)) : Sat (ev c Φ (.List es p) sc m σ) P := Sat.ite hl (.map h)
theorem q_tuple {x : Nat} (hl : es.length ≤ 1000) (h : Sat (evs c Φ es sc m σ) fun r => P (.tuple r.1, r.2)) : Sat (ev c Φ (.Tuple es x p) sc m σ) P := Sat.ite hl (.map h)
theorem q_nil {Q : List AV × Sto → Prop} (h : Q ([], σ)) : Sat (evs c Φ [] sc m σ) Q := h
theorem q_cons {Q : List AV × Sto → Prop} (h : Sat (ev c Φ e sc m σ) fun v => Sat (evs c Φ es sc m v.2) fun vs => Q (v.1 :: vs.1, vs.2)) : Sat (evs c Φ (e :: es) sc m σ) Q := Sat.bind (h.mono fun a h => .map h)
theorem q_meth {n : Str} (ho : okBase e = true ∧ q.endLine = p.line ∧ es.length < 30) (h : Sat (ev c Φ e sc m σ) fun v => Sat (resM v.2 v.1 n) fun mt => Sat (evs c Φ es sc m v.2) fun as => Sat (runM c p Φ mt v.1 as.1 as.2) P) :
    Sat (ev c Φ (.Call (.Attribute e n q) es [] p) sc m σ) P := Sat.ite ho (.bind (h.mono fun a h => .bind (h.mono fun b h => .bind h)))
theorem q_attr {n : Str} (ho : okBase e = true) (h : Sat (ev c Φ e sc m σ) fun v => Sat (attrA v.2 v.1 n) fun r => P (r, v.2)) : Sat (ev c Φ (.Attribute e n p) sc m σ) P := Sat.ite ho (.bind (h.mono fun a h => .map h))
theorem q_call {f : Str} {g : AV} (he : ev c Φ (.Call (.Name f q) es [] p) sc m σ = (look c sc m f).bind fun g => (evs c Φ es sc m σ).bind fun as => callV c Φ p g as.1 as.2) (hg : look c sc m f = some g)
    (h : Sat (evs c Φ es sc m σ) fun as => Sat (callV c Φ p g as.1 as.2) P) : Sat (ev c Φ (.Call (.Name f q) es [] p) sc m σ) P := by
  rw [he, hg]; exact Sat.bind (x := some g) (.bind h)
theorem q_sub (he : ev c Φ (.Subscript e e2 p) sc m σ = (ev c Φ e sc m σ).bind fun v => (ev c Φ e2 sc m v.2).bind fun i => (getA i.2 v.1 i.1).map fun r => (r, i.2))
    (h : Sat (ev c Φ e sc m σ) fun v => Sat (ev c Φ e2 sc m v.2) fun i => Sat (getA i.2 v.1 i.1) fun r => P (r, i.2)) : Sat (ev c Φ (.Subscript e e2 p) sc m σ) P := by
  rw [he]; exact .bind (h.mono fun a h => .bind (h.mono fun b h => .map h))
theorem q_if (h : Sat (tr c Φ t (ev c Φ t sc) sc m σ) fun x => if x.1 = true then Sat (ev c Φ e1 sc m x.2) P else Sat (ev c Φ e2 sc m x.2) P) : Sat (ev c Φ (.IfExp t e1 e2 p) sc m σ) P := Sat.bind (h.mono fun a h => Sat.iff h)
theorem q_slice {lo hi : Option Expr} (h : Sat (ev c Φ e sc m σ) fun v => Sat (evO c Φ lo sc m v.2) fun a => Sat (evO c Φ hi sc m a.2) fun b => Sat (optI a.1) fun l => Sat (optI b.1) fun u => Sat (sliceA c p b.2 v.1 l u) P) :
    Sat (ev c Φ (.Subscript e (.Slice lo hi none q) p) sc m σ) P := Sat.bind (h.mono fun a h => .bind (h.mono fun a h => .bind (h.mono fun a h => .bind (h.mono fun a h => .bind h))))
theorem q_none {Q : Option AV × Sto → Prop} (h : Q (none, σ)) : Sat (evO c Φ none sc m σ) Q := h
theorem q_some {Q : Option AV × Sto → Prop} (h : Sat (ev c Φ e sc m σ) fun v => Q (some v.1, v.2)) : Sat (evO c Φ (some e) sc m σ) Q := Sat.map h

/-- comprehensions -/
theorem q_listcomp {elt iter : Expr} {ifs : List Expr} {gs : List Comprehension} {csc : Scope} (ho : okComp sc csc = true) (h : Sat (evSrc c Φ iter (ev c Φ iter sc) sc m σ) fun src =>
      Sat (compA csc src.1 t (inner csc m) (trs c Φ ifs csc) (gens c Φ (emitL (ev c Φ elt csc)) gs csc) ⟨.ki [], []⟩ src.2) fun r => P (mkL c p r.1.vs r.2)) :
    Sat (ev c Φ (.ListComp elt (⟨t, iter, ifs, 0⟩ :: gs) csc p) sc m σ) P := Sat.ite ⟨rfl, ho⟩ (.bind (h.mono fun a h => .map h))
theorem q_dictcomp {k v iter : Expr} {ifs : List Expr} {gs : List Comprehension} {csc : Scope} (ho : okComp sc csc = true) (h : Sat (evSrc c Φ iter (ev c Φ iter sc) sc m σ) fun src =>
      Sat (compA csc src.1 t (inner csc m) (trs c Φ ifs csc) (gens c Φ (emitD (ev c Φ k csc) (ev c Φ v csc)) gs csc) ⟨if c.sk p then .ks [] else .ki [], []⟩ src.2) fun r => P (.dict r.1.ks r.1.vs, r.2)) :
    Sat (ev c Φ (.DictComp k v (⟨t, iter, ifs, 0⟩ :: gs) csc p) sc m σ) P := Sat.ite ⟨rfl, ho⟩ (.bind (h.mono fun a h => .map h))
theorem q_src {iter : Expr} {Q : Src × Sto → Prop} (he : evSrc c Φ iter (ev c Φ iter sc) sc m σ = (ev c Φ iter sc m σ).map fun v => (.val v.1, v.2)) (h : Sat (ev c Φ iter sc m σ) fun v => Q (.val v.1, v.2)) :
    Sat (evSrc c Φ iter (ev c Φ iter sc) sc m σ) Q := by rw [he]; exact .map h
theorem q_gens {K : Fm → Acc → Sto → Option (Acc × Sto)} {acc : Acc} {iter : Expr} {ifs : List Expr} {gs : List Comprehension} {Q : Acc × Sto → Prop}
    (h : Sat (ev c Φ iter sc m σ) fun v => Sat (compA sc (.val v.1) t m (trs c Φ ifs sc) (gens c Φ K gs sc) acc v.2) Q) : Sat (gens c Φ K (⟨t, iter, ifs, 0⟩ :: gs) sc m acc σ) Q := Sat.ite rfl (.bind h)
theorem q_gens0 {K : Fm → Acc → Sto → Option (Acc × Sto)} {acc : Acc} {Q : Acc × Sto → Prop} (h : Sat (K m acc σ) Q) : Sat (gens c Φ K [] sc m acc σ) Q := h
theorem q_emitL {acc : Acc} {Q : Acc × Sto → Prop} (h : Sat (ev c Φ e sc m σ) fun r => acc.vs.length < 2 ^ 20 ∧ Q ({ acc with vs := acc.vs ++ [r.1] }, r.2)) : Sat (emitL (ev c Φ e sc) m acc σ) Q := Sat.bind (h.mono fun a h => .ite h.1 h.2)
theorem q_emitD {acc : Acc} {Q : Acc × Sto → Prop} (h : Sat (ev c Φ e1 sc m σ) fun a => Sat (ev c Φ e2 sc m a.2) fun b => Sat (setKey a.1 b.1 acc.ks acc.vs) fun r => Q (⟨r.1, r.2⟩, b.2)) : Sat (emitD (ev c Φ e1 sc) (ev c Φ e2 sc) m acc σ) Q :=
  Sat.bind (h.mono fun a h => .bind (h.mono fun b h => .map h))

/-- how a turn ends -/
noncomputable abbrev TurnI {β : Type} (I : β → Prop) (R : Fl × β → Prop) (z : Fl × β) : Prop := match z.1 with
  | .next | .cont => I z.2
  | .brk => R (.next, z.2)
  | .ret v => R (.ret v, z.2)
theorem endA_ok {β : Type} {I : β → Prop} {R : Fl × β → Prop} {go : β → Option (Fl × β)} {x : Option (Fl × β)} (h : Sat x (TurnI I R)) (k : ∀ b, I b → Sat (go b) R) : Sat (x.bind (endA go)) R :=
  .bind (h.mono fun z h => by
    obtain ⟨f, b⟩ := z
    cases f with
    | next => exact k b h
    | cont => exact k b h
    | brk => exact h
    | ret v => exact h)
theorem iterA_inv {β : Type} {rd : β → Option (List AV)} {step : AV → β → Option (Fl × β)} {xs : List AV} {I : Nat → β → Prop} {R : Fl × β → Prop} (hrd : ∀ i b, I i b → rd b = some xs) (hend : ∀ b, I xs.length b → R (.next, b))
    (hs : ∀ i b (h : i < xs.length), I i b → Sat (step xs[i] b) (TurnI (I (i + 1)) R)) (n i : Nat) (b : β) (h : n + i = xs.length) (hI : I i b) : Sat (iterA rd step n i b) R := by
  induction n generalizing i b with
  | zero =>
    refine Sat.bind (.eq (hrd i b hI) (.ite (Nat.le_of_eq (h.symm.trans (Nat.zero_add i))) (hend b ?_)))
    rw [← h, Nat.zero_add]; exact hI
  | succ n ih =>
    have hi : i < xs.length := by first | lia | omega
    refine Sat.bind (.eq (hrd i b hI) ?_)
    show Sat (match xs[i]? with
      | none => some (.next, b)
      | some v => (step v b).bind (endA (iterA rd step n (i + 1)))) R
    rw [List.getElem?_eq_getElem hi]
    exact endA_ok (hs i b hi hI) fun b' h' => ih (i + 1) b' (by first | lia | omega) h'

theorem compA_inv {src : Src} {ifs : Fm → Sto → Option (Bool × Sto)} {rest : Fm → Acc → Sto → Option (Acc × Sto)} {acc : Acc} {xs : List AV} {I : Nat → Acc × Sto → Prop} {R : Acc × Sto → Prop} (hf : src.fits t = true ∧ freshT m t = true) (h0 : I 0 (acc, σ))
    (hrd : ∀ i b, I i b → src.items b.2 = some xs) (hend : ∀ b, I xs.length b → R b) (hs : ∀ i b (h : i < xs.length), I i b → Sat (bindT sc t xs[i] m) fun m' => Sat (ifs m' b.2) fun r => if r.1 = true then Sat (rest m' b.1 r.2) (I (i + 1)) else I (i + 1) (b.1, r.2)) :
    Sat (compA sc src t m ifs rest acc σ) R := by
  refine Sat.ite hf (.bind (.eq (hrd 0 _ h0) (.map (iterA_inv (I := I) (R := fun z => R z.2) hrd hend (fun i b h hI => ?_) xs.length 0 (acc, σ) rfl h0))))
  refine .bind ((hs i b h hI).mono fun m' z => .bind (z.mono fun r z => ?_))
  obtain ⟨d, σ'⟩ := r
  cases d with
  | true => exact Sat.map z
  | false => exact z

/-- tests -/
theorem t_cmp {op : CmpOp} {w : Fm → Sto → Option (AV × Sto)} (h : Sat (ev c Φ e1 sc m σ) fun a => Sat (ev c Φ e2 sc m a.2) fun b => Sat (cmpA b.2 op a.1 b.1) fun x => B (x, b.2)) : Sat (tr c Φ (.Compare e1 [op] [e2] p) w sc m σ) B :=
  Sat.ite rfl (.bind (h.mono fun a h => Sat.bind (h.mono fun b h => .map h)))
theorem t_not {w : Fm → Sto → Option (AV × Sto)} (h : Sat (tr c Φ e (ev c Φ e sc) sc m σ) fun b => B (!b.1, b.2)) : Sat (tr c Φ (.UnaryOp .Not e p) w sc m σ) B := Sat.map h
theorem t_bool {op : BoolOp} {w : Fm → Sto → Option (AV × Sto)} (h : Sat (trB c Φ op es sc m σ) B) : Sat (tr c Φ (.BoolOp op es p) w sc m σ) B := h
theorem t_nil {op : BoolOp} (h : B (op == .And, σ)) : Sat (trB c Φ op [] sc m σ) B := h
theorem t_and (h : Sat (tr c Φ e (ev c Φ e sc) sc m σ) fun b => if b.1 = true then Sat (trB c Φ .And es sc m b.2) B else B (false, b.2)) : Sat (trB c Φ .And (e :: es) sc m σ) B :=
  Sat.bind (h.mono fun b h => by obtain ⟨b, σ'⟩ := b; cases b <;> exact h)
theorem t_or (h : Sat (tr c Φ e (ev c Φ e sc) sc m σ) fun b => if b.1 = true then B (true, b.2) else Sat (trB c Φ .Or es sc m b.2) B) : Sat (trB c Φ .Or (e :: es) sc m σ) B :=
  Sat.bind (h.mono fun b h => by obtain ⟨b, σ'⟩ := b; cases b <;> exact h)
theorem t_plain {w : Fm → Sto → Option (AV × Sto)} (he : tr c Φ e w sc m σ = (w m σ).bind fun v => (truthA v.2 v.1).map fun b => (b, v.2)) (h : Sat (w m σ) fun v => Sat (truthA v.2 v.1) fun b => B (b, v.2)) : Sat (tr c Φ e w sc m σ) B := by
  rw [he]; exact .bind (h.mono fun v h => .map h)
theorem t_trs0 (h : B (true, σ)) : Sat (trs c Φ [] sc m σ) B := h
theorem t_trs1 (h : Sat (tr c Φ e (ev c Φ e sc) sc m σ) B) : Sat (trs c Φ [e] sc m σ) B := Sat.bind (h.mono fun b h => by obtain ⟨b, σ'⟩ := b; cases b <;> exact h)

/-- statements -/
theorem x_expr (hc : isComp e = false) (h : Sat (ev c Φ e sc m σ) fun r => X (.next, m, r.2)) : Sat (ex c Φ (.Expr e p) sc m σ) X := Sat.ite hc (.map h)
theorem x_return (h : Sat (ev c Φ e sc m σ) fun r => X (.ret r.1, m, r.2)) : Sat (ex c Φ (.Return (some e) p) sc m σ) X := Sat.map h
theorem x_assign {x : Str} (ho : okStores (.Name x q) e = true) (hx : setv sc m x = fun v => some (m.set x v)) (h : Sat (ev c Φ e sc m σ) fun v => X (.next, m.set x v.1, v.2)) : Sat (ex c Φ (.Assign [.Name x q] e p) sc m σ) X :=
  Sat.ite ho (.bind (h.mono fun v h => .map (.eq (congrFun hx v.1) h)))
theorem x_assignT {ts : List Expr} {y : Nat} (ho : okStores (.Tuple ts y q) e = true) (h : Sat (ev c Φ e sc m σ) fun v => Sat (bindT sc (.Tuple ts y q) v.1 m) fun m' => X (.next, m', v.2)) : Sat (ex c Φ (.Assign [.Tuple ts y q] e p) sc m σ) X :=
  Sat.ite ho (.bind (h.mono fun v h => .map h))
theorem x_aug {x : Str} {op : Operator} {v : AV} (hv : look c sc m x = some v) (hx : setv sc m x = fun v => some (m.set x v)) (h : Sat (ev c Φ e sc m σ) fun w => Sat (incA w.2 op v w.1) fun r => X (.next, m.set x r.1, r.2)) : Sat (ex c Φ (.AugAssign (.Name x q) op e p) sc m σ) X :=
  Sat.bind (.eq hv (.bind (h.mono fun w h => .bind (h.mono fun r h => .map (.eq (congrFun hx r.1) h)))))
theorem x_if {a b : List Stmt} (h : Sat (tr c Φ t (ev c Φ t sc) sc m σ) fun x => if x.1 = true then Sat (exs c Φ a sc m x.2) X else Sat (exs c Φ b sc m x.2) X) : Sat (ex c Φ (.If t a b p) sc m σ) X := Sat.bind (h.mono fun x h => Sat.iff h)
theorem x_nil (h : X (.next, m, σ)) : Sat (exs c Φ [] sc m σ) X := h
/-- how a statement hands on -/
noncomputable abbrev StepI (k : Fm → Sto → Prop) (X : Fl × Fm × Sto → Prop) (r : Fl × Fm × Sto) : Prop := match r.1 with
  | .next => k r.2.1 r.2.2
  | f => X (f, r.2)
theorem step_next {ss : List Stmt} {x : Option (Fl × Fm × Sto)} (h : Sat x (StepI (fun m σ => Sat (exs c Φ ss sc m σ) X) X)) : Sat (x.bind fun r => match r.1 with
    | .next => exs c Φ ss sc r.2.1 r.2.2
    | f => some (f, r.2)) X := .bind (h.mono fun r h => by obtain ⟨f, m', σ'⟩ := r; cases f <;> exact h)
theorem x_cons {s : Stmt} {ss : List Stmt} (hz : c.fz s.pos = []) (h : Sat (ex c Φ s sc m σ) (StepI (fun m σ => Sat (exs c Φ ss sc m σ) X) X)) : Sat (exs c Φ (s :: ss) sc m σ) X :=
  Sat.bind (.eq (by rw [hz]; rfl) (step_next h))
theorem x_consF {s : Stmt} {ss : List Stmt} {x : Str} {l : Nat} {xs : List AV} (hz : c.fz s.pos = [x]) (hx : m x = some (.loc l)) (hl : σ.get l = some (.list xs)) (h : Sat (ex c Φ s sc (m.set x (.list xs)) (σ.forget l)) (StepI (fun m σ => Sat (exs c Φ ss sc m σ) X) X)) : Sat (exs c Φ (s :: ss) sc m σ) X :=
  Sat.bind (.eq (a := (m.set x (.list xs), σ.forget l)) (by rw [hz, freezes, freezeA, hx]; show ((onL σ.get l fun xs => some (m.set x (.list xs), σ.forget l)).bind _) = _; rw [onL, hl]; rfl) (step_next h))

theorem whileA_inv {β : Type} {test : β → Option (Bool × β)} {body : β → Option (Fl × β)} {I : Nat → β → Prop} {R : Fl × β → Prop}
    (hs : ∀ n b, I n b → Sat (test b) fun z => if z.1 = true then Sat (body z.2) (TurnI (fun b => ∃ k, k < n ∧ I k b) R) else R (.next, z.2)) (fuel n : Nat) (b : β) (h : n < fuel) (hI : I n b) : Sat (whileA test body fuel b) R := by
  induction fuel generalizing n b with
  | zero => exact absurd h (Nat.not_lt_zero _)
  | succ fuel ih =>
    refine Sat.bind ((hs n b hI).mono fun z h' => ?_)
    obtain ⟨d, b'⟩ := z
    cases d with
    | false => exact h'
    | true => exact endA_ok h' fun b' q => q.elim fun k q => ih k b' (Nat.lt_of_lt_of_le q.1 (Nat.le_of_lt_succ h)) q.2
theorem x_while {b : List Stmt} {I : Nat → Fm × Sto → Prop} {n : Nat} (hn : n < c.fuel) (h0 : I n (m, σ)) (hs : ∀ n s, I n s → Sat (tr c Φ t (ev c Φ t sc) sc s.1 s.2) fun z => if z.1 = true then Sat (exs c Φ b sc s.1 z.2) (TurnI (fun b => ∃ k, k < n ∧ I k b) X) else X (.next, s.1, z.2)) :
    Sat (ex c Φ (.While t b [] p) sc m σ) X := whileA_inv (I := I) (fun n s hI => .map (hs n s hI)) c.fuel n (m, σ) hn h0
/-- what a loop over a sequence asks -/
structure ForH (c : Cfg) (Φ : Fns) (sc : Scope) (t : Expr) (b : List Stmt) (m : Fm) (xs : List AV) (I : Nat → Fm × Sto → Prop) (X : Fl × Fm × Sto → Prop) (v : AV × Sto) : Prop where
  h1 : items? v.2 v.1 = some xs
  h2 : I 0 (m, v.2)
  h3 : ∀ i s, I i s → items? s.2 v.1 = some xs
  h4 : ∀ s, I xs.length s → X (.next, s)
  h5 : ∀ i s (_ : i < xs.length), I i s → Sat (bindT sc t xs[i] s.1) fun m' => Sat (exs c Φ b sc m' s.2) (TurnI (I (i + 1)) X)
theorem x_for {b : List Stmt} {xs : List AV} {I : Nat → Fm × Sto → Prop} (h : Sat (ev c Φ e sc m σ) (ForH c Φ sc t b m xs I X)) : Sat (ex c Φ (.For t e b [] p) sc m σ) X :=
  Sat.bind (h.mono fun v h => .bind (.eq h.h1 (iterA_inv (I := I) h.h3 h.h4 (fun i s hi hI => .bind (h.h5 i s hi hI)) xs.length 0 (m, v.2) rfl h.h2)))
end
end Mine
namespace Mine
open PySem PyProof.Rows

noncomputable abbrev cfgP : Cfg := cfg false sk2 pw mu2 fz2
noncomputable abbrev F (n : Nat) : Fns := fns cfgP (Mine.defsOf pw) n
noncomputable def defP (i : Nat) : Def := ⟨(argsOf (defAt pw i)).args.map (·.arg), bodyOf (defAt pw i), scopeOf (defAt pw i)⟩

theorem call_isterm {n : Nat} {x : Int} {σ : Sto} : F (n + 1) "ISTERMINAL" [.int x] σ = some (.bool (decide (x < 256)), σ.upto σ.nx) := by kernel_rfl
theorem call_isnon {n : Nat} {x : Int} {σ : Sto} : F (n + 1) "ISNONTERMINAL" [.int x] σ = some (.bool (decide (256 ≤ x)), σ.upto σ.nx) := by kernel_rfl
theorem call_iseof {n : Nat} {x : Int} {σ : Sto} : F (n + 1) "ISEOF" [.int x] σ = some (.bool (PyData.eqv (.int x) (.int 0)), σ.upto σ.nx) := by kernel_rfl
noncomputable def exK : List Str := match globOf pw "EXACT_TOKEN_TYPES" with
  | some (.dict (.ks ks) _) => ks
  | _ => []
noncomputable def exV : List AV := match globOf pw "EXACT_TOKEN_TYPES" with
  | some (.dict _ vs) => vs
  | _ => []
theorem call_symbol {n : Nat} {w : Str} {ks : List Str} {vs : List AV} {σ : Sto} : F (n + 1) "_law_symbol" [.str w, .dict (.ks ks) vs] σ = some ((lk w exK exV).getD ((lk w ks vs).getD (.int (-1))), σ.upto σ.nx) := by kernel_rfl
end Mine
namespace Mine
open PySem PyProof.Rows

noncomputable def names6 : List Str := ["\" ", "b\"\\", "..", "\n#", "<>", "t\x0b'"]
noncomputable def signs48 : List Str := Txt.split "( ) [ ] : , ; + - * / | & < > = . % { } == != <= >= ~ ^ << >> ** += -= *= /= %= &= |= ^= <<= >>= **= // //= @ @= -> ... := !" " "
noncomputable def words56 : List Str := (["", "x"] : List Str) ++ signs48 ++ names6
noncomputable def blank4 : List Nat := [10, 9, 13, 32]

noncomputable def riskyW (w : List Nat) (m : Nat) : List Nat := if m = 0 then [34, 92] else if m = 1 then [10, 9, 13, 32, 92] ++ (if w.head? = some 34 then [34] else []) else w
noncomputable def escW (r : List Nat) : List Nat → List Nat
  | [] => []
  | c :: cs => if r.contains c then 92 :: c :: escW r cs else c :: escW r cs
/-- how a word is written -/
noncomputable def encW (w : List Nat) (m b : Nat) : List Nat := if m = 0 then b :: 34 :: (escW (riskyW w m) w ++ [34]) else escW (riskyW w m) w ++ [b]

noncomputable def cases672 : List (Str × Nat × Nat) := words56.flatMap fun (w : Str) => (if w.cps.isEmpty then [0] else [0, 1, 2]).flatMap fun m => blank4.map fun b => (w, m, b)
noncomputable def enc (x : Str × Nat × Nat) : List Nat := encW x.1.cps.toList x.2.1 x.2.2

theorem written_all {n : Nat} {σ : Sto} : (cases672.map fun x => F (n + 1) "_law_written" [.str x.1, .int x.2.1, .str ⟨#[x.2.2]⟩] σ) = cases672.map fun x => some (.str ⟨(enc x).toArray⟩, σ.upto σ.nx) := by kernel_rfl
theorem token_nil {n : Nat} : (cases672.map fun x => token (enc x ++ []) n) = cases672.map fun x => (x.1.cps.toList, [], n + (enc x).count 10) := by kernel_rfl
theorem token_cons {y : Nat} {rest : List Nat} {n : Nat} : (cases672.map fun x => token (enc x ++ y :: rest) n) = cases672.map fun x => (x.1.cps.toList, y :: rest, n + (enc x).count 10) := by kernel_rfl
theorem token_all {rest : List Nat} {n : Nat} {x : Str × Nat × Nat} (hx : x ∈ cases672) : token (enc x ++ rest) n = (x.1.cps.toList, rest, n + (enc x).count 10) := by
  cases rest with
  | nil => exact List.map_inj_left.mp token_nil x hx
  | cons y rest => exact List.map_inj_left.mp token_cons x hx
theorem token_last {n : Nat} : (cases672.map fun x => token (enc x).dropLast n) = cases672.map fun x => (x.1.cps.toList, [], n + ((enc x).dropLast).count 10) := by kernel_rfl
end Mine
namespace Mine
open PySem PyProof.Rows

theorem or2 {i : Nat} (h : i < 2) : i = 0 ∨ i = 1 := match i, h with
  | 0, _ => .inl rfl
  | 1, _ => .inr rfl
theorem or4 {i : Nat} (h : i < 4) : i = 0 ∨ i = 1 ∨ i = 2 ∨ i = 3 := match i, h with
  | 0, _ => .inl rfl
  | 1, _ => .inr (.inl rfl)
  | 2, _ => .inr (.inr (.inl rfl))
  | 3, _ => .inr (.inr (.inr rfl))
theorem or7 {i : Nat} (h : i < 7) : i = 0 ∨ i = 1 ∨ i = 2 ∨ i = 3 ∨ i = 4 ∨ i = 5 ∨ i = 6 := match i, h with
  | 0, _ => .inl rfl
  | 1, _ => .inr (.inl rfl)
  | 2, _ => .inr (.inr (.inl rfl))
  | 3, _ => .inr (.inr (.inr (.inl rfl)))
  | 4, _ => .inr (.inr (.inr (.inr (.inl rfl))))
  | 5, _ => .inr (.inr (.inr (.inr (.inr (.inl rfl)))))
  | 6, _ => .inr (.inr (.inr (.inr (.inr (.inr rfl)))))
theorem mapO_all {α β γ : Type} {f : β → Option γ} {g : α → β} {h : α → γ} (e : ∀ x, f (g x) = some (h x)) {xs : List α} : mapO f (xs.map g) = some (xs.map h) := by
  induction xs with
  | nil => rfl
  | cons x xs ih =>
    show ((f (g x)).bind fun d => (mapO f (xs.map g)).bind fun ds => some (d :: ds)) = _
    rw [e, ih]; rfl
theorem range_filter {p : Nat → Bool} {i : Nat} : (List.range (i + 1)).filter p = (List.range i).filter p ++ if p i = true then [i] else [] := by
  rw [List.range_succ, List.filter_append]
  exact congrArg (List.filter p (List.range i) ++ ·) (by cases h : p i <;> simp [h])
theorem sat_call {c : Cfg} {Φ : Fns} {d : Def} {args : List AV} {σ : Sto} {P : AV × Sto → Prop} (hl : d.params.length = args.length) (h : Sat (exs c Φ d.body d.scope (fun x => (d.params.zip args).lookup x) σ) fun r => Sat (retA σ.nx r) P) : Sat (d.call c Φ args σ) P := Sat.ite hl (.bind h)
theorem F_def {n i : Nat} {f : Str} {args : List AV} {σ : Sto} (h1 : f ≠ "get_token" ∧ f ≠ "push_token" ∧ f ≠ "_read_char" ∧ f ≠ "_law_stream" ∧ f ≠ "_netrclex") (hd : Mine.defsOf pw f = some (defP i)) : F (n + 1) f args σ = (defP i).call cfgP (F n) args σ := by
  obtain ⟨h1, h2, h3, h4, h5⟩ := h1
  refine (if_neg h1).trans ((if_neg h2).trans ((if_neg h3).trans ((if_neg h4).trans ((if_neg h5).trans ?_))))
  rw [hd]; rfl

/-- a rule as the text holds it -/
noncomputable def ruleZ (br : Nat → List Int) (k : Nat) : List Int := (256 + (k : Int)) :: (br k ++ [0])
noncomputable def ruleA (br : Nat → List Int) (k : Nat) : AV := .list ((ruleZ br k).map .int)
noncomputable def leadsA (br : Nat → List Int) : AV := .dict (.ki [256, 257, 258, 259]) [ruleA br 0, ruleA br 1, ruleA br 2, ruleA br 3]

/-- the branches are letters and names -/
structure GOk (br : Nat → List Int) : Prop where
  len : ∀ k, k < 4 → (br k).length ≤ 2
  sym : ∀ k, k < 4 → ∀ s ∈ br k, (0 < s ∧ s < 256) ∨ ∃ j : Nat, j < 4 ∧ s = 256 + (j : Int)

/-- a symbol: a letter or a name -/
noncomputable def SymOk (s : Int) : Prop := (0 < s ∧ s < 256) ∨ ∃ j : Nat, j < 4 ∧ s = 256 + (j : Int)

noncomputable def there (br : Nat → List Int) : Int → List Nat → Option Int
  | s, [] => some (if s < 256 then s else 256 + ((br (s - 256).toNat).length : Int))
  | s, d :: ds => if s < 256 then none else match (br (s - 256).toNat)[d]? with
    | none => none
    | some t => there br t ds

theorem nm_not {j : Nat} : ¬ 256 + (j : Int) < 256 := by first | lia | omega
theorem nm_ix {j : Nat} : (256 + (j : Int) - 256).toNat = j := by first | lia | omega
theorem there_nm {br : Nat → List Int} {j : Nat} : there br (256 + (j : Int)) [] = some (256 + ((br j).length : Int)) := by
  show some (if 256 + (j : Int) < 256 then _ else 256 + ((br (256 + (j : Int) - 256).toNat).length : Int)) = _
  rw [if_neg nm_not, nm_ix]
theorem there_dn {br : Nat → List Int} {j d : Nat} {ds : List Nat} : there br (256 + (j : Int)) (d :: ds) = match (br j)[d]? with
    | none => none
    | some t => there br t ds := by
  show (if 256 + (j : Int) < 256 then none else match (br (256 + (j : Int) - 256).toNat)[d]? with
    | none => none
    | some t => there br t ds) = _
  rw [if_neg nm_not, nm_ix]

noncomputable def optA : Option Int → AV
  | none => .none
  | some i => .int i
noncomputable def roadS (ds : List Nat) : Str := ⟨(ds.map (48 + ·)).toArray⟩

theorem getA_leads {br : Nat → List Int} {σ : Sto} {j : Nat} (hj : j < 4) : getA σ (leadsA br) (.int (256 + (j : Int))) = some (ruleA br j) := by
  have : j = 0 ∨ j = 1 ∨ j = 2 ∨ j = 3 := or4 (by first | assumption | lia | omega)
  rcases this with rfl | rfl | rfl | rfl <;> kernel_rfl

theorem len_rule {br : Nat → List Int} {k : Nat} : (ruleZ br k).length = (br k).length + 2 := by simp [ruleZ]
theorem idx_nat (i n : Nat) (h : i < n) : idx n (i : Int) = some i := by
  unfold idx seqIndex?
  have h1 : ¬ ((i : Int) < 0) := by first | lia | omega
  have h2 : (0 : Int) ≤ i := by first | lia | omega
  have h3 : (i : Int) < n := by first | lia | omega
  simp [h1, h2, h3]
theorem rule_at {br : Nat → List Int} {σ : Sto} {k d : Nat} {t : Int} (h : (br k)[d]? = some t) : getA σ (ruleA br k) (.int ((d : Int) + 1)) = some (.int t) := by
  have hd : d < (br k).length := (List.getElem?_eq_some_iff.mp h).1
  have hl : ((ruleZ br k).map AV.int).length = (br k).length + 2 := by simp [ruleZ]
  have hi : idx ((ruleZ br k).map AV.int).length ((d : Int) + 1) = some (d + 1) := idx_nat (d + 1) _ (by first | lia | omega)
  show ((lst? σ (ruleA br k)).bind fun xs => (idx xs.length ((d : Int) + 1)).bind fun k => xs[k]?) = _
  show ((idx ((ruleZ br k).map AV.int).length ((d : Int) + 1)).bind fun j => ((ruleZ br k).map AV.int)[j]?) = _
  rw [hi]
  show ((ruleZ br k).map AV.int)[d + 1]? = _
  rw [List.getElem?_map]
  show ((br k ++ [0])[d]?).map AV.int = _
  rw [List.getElem?_append_left hd, h]
  rfl

theorem SymOk.split {s : Int} (h : SymOk s) : (s < 256 ∧ ∀ br ds, there br s ds = if ds = [] then some s else none) ∨ ∃ j : Nat, j < 4 ∧ s = 256 + (j : Int) := by
  rcases h with ⟨h1, h2⟩ | h
  · refine .inl ⟨h2, fun br ds => ?_⟩
    cases ds with
    | nil => exact (congrArg some (if_pos h2)).trans (if_pos rfl).symm
    | cons d ds => exact (if_pos h2).trans (if_neg (List.cons_ne_nil _ _)).symm
  · exact .inr h

theorem lk_sym {m : Fm} : look cfgP (defP 62).scope m "symbol" = m "symbol" := by kernel_rfl
theorem lk_leads {m : Fm} : look cfgP (defP 62).scope m "leads" = m "leads" := by kernel_rfl
theorem lk_step {m : Fm} : look cfgP (defP 62).scope m "step" = m "step" := by kernel_rfl

theorem call_there {br : Nat → List Int} (G : GOk br) {n : Nat} {s : Int} (hs : SymOk s) {ds : List Nat} (hd : ∀ d ∈ ds, d < 2) {σ : Sto} :
    Sat (F (n + 1) "_law_there" [leadsA br, .int s, .str (roadS ds)] σ) fun r => r = (optA (there br s ds), σ.upto σ.nx) := by
  rw [F_def (i := 62) (by decide) (by kernel_rfl)]
  refine sat_call (by kernel_rfl) ?_
  refine x_cons (by kernel_rfl) ?_
  refine x_for (xs := ds.map fun d => .str ⟨#[48 + d]⟩) (I := fun i s' => s'.2 = σ ∧ ∃ t, SymOk t ∧ s'.1 "leads" = some (leadsA br) ∧ s'.1 "symbol" = some (.int t) ∧ there br t (ds.drop i) = there br s ds) ?_
  refine q_name (v := .str (roadS ds)) (by kernel_rfl) ⟨?_, ⟨rfl, s, hs, by kernel_rfl, by kernel_rfl, rfl⟩, fun i s h => ?_, fun s' h => ?_, fun i s' hi h => ?_⟩
  · simp [items?, roadS, List.map_map, Function.comp_def]
  · simp [items?, roadS, List.map_map, Function.comp_def]
  · obtain ⟨m, σ'⟩ := s'
    obtain ⟨rfl, t, ht, h2, h3, h4⟩ := h
    simp only at h2 h3
    rw [List.length_map, List.drop_length] at h4
    refine x_cons (by kernel_rfl) (x_return (q_if (t_cmp (q_name (lk_sym.trans h3) (.eq rfl (.eq rfl ?_))))))
    rw [← h4]
    rcases ht.split with ⟨hl, hth⟩ | ⟨j, hj, rfl⟩
    · rw [if_pos (by simpa using hl), hth, if_pos rfl]
      exact q_name (lk_sym.trans h3) rfl
    · rw [if_neg (by simp; first | lia | omega)]
      refine q_bin (.eq rfl (q_call rfl (g := .bi .len) (by kernel_rfl) (q_cons (q_sub rfl (q_name (lk_leads.trans h2) (q_name (lk_sym.trans h3) (.eq (getA_leads hj) (q_nil ?_))))))))
      refine .eq (a := (.int ((br j).length + 2 : Nat), σ')) ?_ (.eq rfl ?_)
      · show some (AV.int (((ruleZ br j).map AV.int).length : Nat), σ') = _
        rw [List.length_map, len_rule]
      · have : there br (256 + (j : Int)) [] = some (256 + ((br j).length : Int)) := there_nm
        rw [this]
        show (AV.int (254 + (((br j).length + 2 : Nat) : Int)), _) = (AV.int (256 + ((br j).length : Int)), _)
        have : (254 + (((br j).length + 2 : Nat) : Int)) = 256 + ((br j).length : Int) := by first | lia | omega
        rw [this]
  · obtain ⟨m, σ'⟩ := s'
    obtain ⟨rfl, t, ht, h2, h3, h4⟩ := h
    simp only at h2 h3
    rw [List.length_map] at hi
    have hdi := hd _ (List.getElem_mem hi)
    have hdrop : ds.drop i = ds[i] :: ds.drop (i + 1) := List.drop_eq_getElem_cons hi
    rw [hdrop] at h4
    refine .eq (a := m.set "step" (.str ⟨#[48 + ds[i]]⟩)) (by simp; kernel_rfl) ?_
    generalize ds[i] = d at *
    have e2 : (m.set "step" (.str ⟨#[48 + d]⟩)) "leads" = some (leadsA br) := (if_neg (by decide)).trans h2
    have e3 : (m.set "step" (.str ⟨#[48 + d]⟩)) "symbol" = some (.int t) := (if_neg (by decide)).trans h3
    have e4 : (m.set "step" (.str ⟨#[48 + d]⟩)) "step" = some (.str ⟨#[48 + d]⟩) := if_pos rfl
    generalize (m.set "step" (.str ⟨#[48 + d]⟩)) = m' at *
    refine x_cons (by kernel_rfl) (x_if (t_bool (t_or (t_cmp (q_name (lk_sym.trans e3) (.eq rfl (.eq rfl ?_)))))))
    have hint : ∀ {p : Pos} {c : Cfg} {Φ : Fns} {σ : Sto}, callV c Φ p (.bi .int) [.str ⟨#[48 + d]⟩] σ = some (.int d, σ) := fun {p c Φ σ} => by
      have : d = 0 ∨ d = 1 := or2 (by first | assumption | lia | omega)
      rcases this with rfl | rfl <;> kernel_rfl
    rcases ht.split with ⟨hl, hth⟩ | ⟨j, hj, rfl⟩
    · rw [if_pos (by simpa using hl), if_pos rfl]
      refine x_cons (by kernel_rfl) (x_return (.eq rfl ?_))
      rw [hth, if_neg (by simp)] at h4
      rw [← h4]
      rfl
    · rw [if_neg (by simp; first | lia | omega)]
      refine t_or (t_cmp (q_call rfl (g := .bi .len) (by kernel_rfl) (q_cons (q_sub rfl (q_name (lk_leads.trans e2) (q_name (lk_sym.trans e3) (.eq (getA_leads hj) (q_nil ?_))))))))
      refine .eq (a := (.int ((br j).length + 2 : Nat), σ')) ?_ ?_
      · show some (AV.int (((ruleZ br j).map AV.int).length : Nat), σ') = _
        rw [List.length_map, len_rule]
      refine q_bin (q_call rfl (g := .bi .int) (by kernel_rfl) (q_cons (q_name (lk_step.trans e4) (q_nil (.eq hint (.eq rfl (.eq rfl (.eq rfl ?_))))))))
      rw [there_dn] at h4
      cases hbr : (br j)[d]? with
      | none =>
        rw [hbr] at h4
        have := List.getElem?_eq_none_iff.mp hbr
        rw [if_pos (by simp; first | lia | omega), if_pos rfl]
        refine x_cons (by kernel_rfl) (x_return (.eq rfl ?_))
        rw [← h4]
        rfl
      | some t' =>
        rw [hbr] at h4
        have := (List.getElem?_eq_some_iff.mp hbr).1
        rw [if_neg (by simp; first | lia | omega)]
        refine t_nil ?_
        rw [if_neg (by simp)]
        refine x_nil (x_cons (by kernel_rfl) (x_assign rfl (by kernel_rfl) (q_sub rfl (q_sub rfl (q_name (lk_leads.trans e2) (q_name (lk_sym.trans e3) (.eq (getA_leads hj) ?_)))))))
        refine q_bin (q_call rfl (g := .bi .int) (by kernel_rfl) (q_cons (q_name (lk_step.trans e4) (q_nil (.eq hint (.eq rfl (.eq rfl (.eq (rule_at hbr) ?_))))))))
        refine x_nil ⟨rfl, t', G.sym j hj t' (List.mem_of_getElem? hbr), ?_, ?_, h4⟩
        · show (m'.set "symbol" (.int t')) "leads" = _
          rw [Fm.set, if_neg (by decide)]; exact e2
        · show (m'.set "symbol" (.int t')) "symbol" = _
          rw [Fm.set, if_pos rfl]
end Mine
namespace Mine
open PySem PyProof.Rows

noncomputable def optPy : Option Int → PyData
  | none => .none
  | some i => .int i
theorem toPy_opt {k : Nat} {o : Option Int} : toPy k (optA o) = some (optPy o) := by cases o <;> cases k <;> rfl
theorem toPys_opt {k : Nat} {os : List (Option Int)} : toPys k (os.map optA) = some (os.map optPy) := mapO_all fun _ => toPy_opt
theorem eqv_opt {a b : Option Int} : PyData.eqv (optPy a) (optPy b) = decide (a = b) := by
  cases a <;> cases b <;> simp [optPy, PyData.eqv]
  rename_i x y
  by_cases h : x = y <;> simp [h]
theorem eqvAll_opt : ∀ {xs ys : List (Option Int)}, PyData.eqvAll (xs.map optPy) (ys.map optPy) = decide (xs = ys)
  | [], [] => by simp [PyData.eqvAll]
  | [], y :: ys => by simp [PyData.eqvAll]
  | x :: xs, [] => by simp [PyData.eqvAll]
  | x :: xs, y :: ys => by
    simp only [List.map_cons, PyData.eqvAll, eqv_opt, eqvAll_opt, List.cons.injEq, Bool.decide_and]

/-- the store below a place is as it was -/
noncomputable def Keep (n : Nat) (σ σ' : Sto) : Prop := (∀ l, l < n → σ'.get l = σ.get l) ∧ σ.nx ≤ σ'.nx
theorem Keep.refl {n : Nat} {σ : Sto} : Keep n σ σ := ⟨fun _ _ => rfl, Nat.le_refl _⟩
theorem Keep.trans {n : Nat} {σ σ' σ'' : Sto} (a : Keep n σ σ') (b : Keep n σ' σ'') : Keep n σ σ'' := ⟨fun l h => (b.1 l h).trans (a.1 l h), Nat.le_trans a.2 b.2⟩
theorem Keep.new {n : Nat} {σ : Sto} {o : AObj} (h : n ≤ σ.nx) : Keep n σ (σ.new o) := ⟨fun l hl => if_neg (Nat.ne_of_lt (Nat.lt_of_lt_of_le hl h)), Nat.le_succ _⟩
theorem Keep.upd {n l : Nat} {σ : Sto} {o : AObj} (h : n ≤ l) : Keep n σ (σ.upd l o) := ⟨fun k hl => if_neg (Nat.ne_of_lt (Nat.lt_of_lt_of_le hl h)), Nat.le_refl _⟩
theorem Keep.forget {n l : Nat} {σ : Sto} (h : n ≤ l) : Keep n σ (σ.forget l) := ⟨fun k hl => if_neg (Nat.ne_of_lt (Nat.lt_of_lt_of_le hl h)), Nat.le_refl _⟩
theorem Keep.upto {n : Nat} {σ : Sto} {k : Nat} (h : n ≤ k) : Keep n σ (σ.upto k) := ⟨fun l hl => if_pos (Nat.lt_of_lt_of_le hl h), Nat.le_refl _⟩
theorem Keep.less {n k : Nat} {σ σ' : Sto} (a : Keep n σ σ') (h : k ≤ n) : Keep k σ σ' := ⟨fun l hl => a.1 l (Nat.lt_of_lt_of_le hl h), a.2⟩

theorem new_get {σ : Sto} {o : AObj} : (σ.new o).get σ.nx = some o := if_pos rfl
theorem upd_at {σ : Sto} {l : Nat} {o : AObj} : (σ.upd l o).get l = some o := if_pos rfl
theorem lst_loc {s : Sto} {l : Nat} {xs : List AV} (h : s.get l = some (.list xs)) : lst? s (.loc l) = some xs := by
  show (match s.get l with
    | some (.list xs) => some xs
    | _ => none) = _
  rw [h]
theorem items_loc {s : Sto} {l : Nat} {xs : List AV} (h : s.get l = some (.list xs)) : items? s (.loc l) = some xs := by
  show (match s.get l with
    | some (.list xs) => some xs
    | _ => none) = _
  rw [h]
theorem len_loc {c : Cfg} {Φ : Fns} {p : Pos} {s : Sto} {l : Nat} {xs : List AV} (h : s.get l = some (.list xs)) : callV c Φ p (.bi .len) [.loc l] s = some (.int xs.length, s) := by
  show ((lst? s (.loc l)).bind fun xs => some (AV.int xs.length, s)) = _
  rw [lst_loc h]; rfl
theorem at_idx {xs : List AV} {i : Nat} {v : AV} (hv : xs[i]? = some v) : ((idx xs.length (i : Int)).bind fun k => xs[k]?) = some v := by
  rw [idx_nat i xs.length (List.getElem?_eq_some_iff.mp hv).1]; exact hv
theorem getA_loc {σ : Sto} {l i : Nat} {xs : List AV} {v : AV} (h : σ.get l = some (.list xs)) (hv : xs[i]? = some v) : getA σ (.loc l) (.int i) = some v := by
  show ((lst? σ (.loc l)).bind fun xs => (idx xs.length (i : Int)).bind fun k => xs[k]?) = _
  rw [lst_loc h]; exact at_idx hv
theorem getA_list {σ : Sto} {i : Nat} {xs : List AV} {v : AV} (hv : xs[i]? = some v) : getA σ (.list xs) (.int i) = some v := at_idx (xs := xs) hv

theorem res_app {s : Sto} {l : Nat} {xs : List AV} (h : s.get l = some (.list xs)) : resM s (.loc l) "append" = some .append := by
  show ((s.get l).bind (objM "append")) = _
  rw [h]; rfl
theorem run_app {c : Cfg} {p : Pos} {Φ : Fns} {s : Sto} {l : Nat} {xs : List AV} {v : AV} (h : s.get l = some (.list xs)) (hl : xs.length < 2 ^ 20) : runM c p Φ .append (.loc l) [v] s = some (.none, s.upd l (.list (xs ++ [v]))) := by
  show (onL s.get l fun xs => if xs.length < 2 ^ 20 then some (AV.none, s.upd l (.list (xs ++ [v]))) else none) = _
  rw [onL, h]; exact if_pos hl
theorem res_get {s : Sto} {l lf : Nat} {ln : Int} {ts : List AV} (h : s.get l = some (.lexer ln lf ts)) : resM s (.loc l) "get_token" = some (.lex "get_token") := by
  show ((s.get l).bind (objM "get_token")) = _
  rw [h]; rfl
theorem res_push {s : Sto} {l lf : Nat} {ln : Int} {ts : List AV} (h : s.get l = some (.lexer ln lf ts)) : resM s (.loc l) "push_token" = some (.lex "push_token") := by
  show ((s.get l).bind (objM "push_token")) = _
  rw [h]; rfl

noncomputable def roads15 : List (List Nat) := [[], [0], [1], [0, 0], [0, 1], [1, 0], [1, 1], [0, 0, 0], [0, 0, 1], [0, 1, 0], [0, 1, 1], [1, 0, 0], [1, 0, 1], [1, 1, 0], [1, 1, 1]]
noncomputable def rp (i : Nat) : List AV := (roads15.take (1 + 2 * i)).map fun ds => .str (roadS ds)
noncomputable def rowL (br : Nat → List Int) (n : Nat) : List (Option Int) := roads15.map fun ds => there br (256 + (n : Int)) ds
noncomputable def rowA (br : Nat → List Int) (n : Nat) : AV := .list ((rowL br n).map optA)
noncomputable def looksA (br : Nat → List Int) : AV := .list [rowA br 0, rowA br 1, rowA br 2, rowA br 3]
noncomputable def unlikeL (br : Nat → List Int) : List Nat := (List.range 4).filter fun n => !((List.range n).any fun m => decide (rowL br m = rowL br n))
noncomputable def pk (br : Nat → List Int) (q : Nat × Nat) (k : Nat) : Bool := decide ((roads15.getD k []).length < (unlikeL br).length) && decide ((rowL br q.1).getD k none ≠ (rowL br q.2).getD k none)
noncomputable def due (br : Nat → List Int) (q : Nat × Nat) : Option (List Nat) := ((List.range 15).find? (pk br q)).map fun k => roads15.getD k []
noncomputable def dueA : Option (List Nat) → AV
  | none => .none
  | some ds => .str (roadS ds)

noncomputable abbrev scD : Scope := (defP 63).scope
theorem ld_roads {m : Fm} : look cfgP scD m "roads" = m "roads" := by kernel_rfl
theorem ld_k {m : Fm} : look cfgP scD m "k" = m "k" := by kernel_rfl

noncomputable def dueLoop : Stmt := ((bodyOf (defAt pw 63))[1]?).getD (.Pass default)

/-- the roads are listed -/
theorem due_roads {Φ : Fns} {m0 : Fm} {σ σ1 : Sto} {L : Nat} {P : Fl × Fm × Sto → Prop} (hr : m0 "roads" = some (.loc L)) (hL : σ.nx ≤ L) (h0 : σ1.get L = some (.list (rp 0))) (hk : Keep σ.nx σ σ1)
    (hP : ∀ m' σ', m' "roads" = some (.loc L) → (∀ x : Str, x ≠ "k" → x ≠ "roads" → m' x = m0 x) → σ'.get L = some (.list (rp 7)) → Keep σ.nx σ σ' → σ'.nx = σ1.nx → P (.next, m', σ')) : Sat (ex cfgP Φ dueLoop scD m0 σ1) P := by
  refine x_for (xs := [.int 0, .int 1, .int 2, .int 3, .int 4, .int 5, .int 6]) (I := fun i s => s.1 "roads" = some (.loc L) ∧ (∀ x : Str, x ≠ "k" → x ≠ "roads" → s.1 x = m0 x) ∧ s.2.get L = some (.list (rp i)) ∧ Keep σ.nx σ s.2 ∧ s.2.nx = σ1.nx) ?_
  refine .eq (a := (.range 0 7, σ1)) (by kernel_rfl) ⟨by kernel_rfl, ⟨hr, fun _ _ _ => rfl, h0, hk, rfl⟩, fun i s h => by kernel_rfl, fun s h => hP s.1 s.2 h.1 h.2.1 h.2.2.1 h.2.2.2.1 h.2.2.2.2, fun i s hi h => ?_⟩
  obtain ⟨m, σ2⟩ := s
  obtain ⟨h1, h2, h3, h4, h5⟩ := h
  simp only at h1 h2 h3 h4 h5
  have hi7 : i < 7 := hi
  have ex0 : ([.int 0, .int 1, .int 2, .int 3, .int 4, .int 5, .int 6] : List AV)[i] = .int (i : Int) := by
    have : i = 0 ∨ i = 1 ∨ i = 2 ∨ i = 3 ∨ i = 4 ∨ i = 5 ∨ i = 6 := or7 (by first | assumption | lia | omega)
    rcases this with rfl | rfl | rfl | rfl | rfl | rfl | rfl <;> rfl
  rw [ex0]
  refine .eq (a := m.set "k" (.int i)) (by kernel_rfl) ?_
  have e1 : (m.set "k" (.int i)) "roads" = some (.loc L) := (if_neg (by decide)).trans h1
  have e2 : (m.set "k" (.int i)) "k" = some (.int i) := if_pos rfl
  have e3 : ∀ x : Str, x ≠ "k" → x ≠ "roads" → (m.set "k" (.int i)) x = m0 x := fun x hx hy => by rw [Fm.set, if_neg hx]; exact h2 x hx hy
  generalize (m.set "k" (.int i)) = m' at *
  obtain ⟨ds, hds, hlen, hnext⟩ : ∃ ds, (rp i)[i]? = some (.str (roadS ds)) ∧ ds.length ≤ 3 ∧ rp (i + 1) = rp i ++ [.str (roadS (ds ++ [0])), .str (roadS (ds ++ [1]))] := by
    have : i = 0 ∨ i = 1 ∨ i = 2 ∨ i = 3 ∨ i = 4 ∨ i = 5 ∨ i = 6 := or7 (by first | assumption | lia | omega)
    rcases this with rfl | rfl | rfl | rfl | rfl | rfl | rfl
    · exact ⟨[], rfl, by decide, rfl⟩
    · exact ⟨[0], rfl, by decide, rfl⟩
    · exact ⟨[1], rfl, by decide, rfl⟩
    · exact ⟨[0, 0], rfl, by decide, rfl⟩
    · exact ⟨[0, 1], rfl, by decide, rfl⟩
    · exact ⟨[1, 0], rfl, by decide, rfl⟩
    · exact ⟨[1, 1], rfl, by decide, rfl⟩
  have hadd : ∀ {p : Pos} {σ : Sto} (d : Nat) (t : Str), t = ⟨#[48 + d]⟩ → binA cfgP p .Add (.str (roadS ds)) (.str t) σ = some (.str (roadS (ds ++ [d])), σ) := fun {p σ} d t ht => by
    subst ht
    show (if (roadS ds).length + (⟨#[48 + d]⟩ : Str).length ≤ sizeLine then some (AV.str (roadS ds ++ ⟨#[48 + d]⟩), σ) else none) = _
    rw [if_pos]
    · congr 3
      show (⟨((ds.map (48 + ·)).toArray ++ #[48 + d])⟩ : Str) = ⟨((ds ++ [d]).map (48 + ·)).toArray⟩
      simp
    · show (ds.map (48 + ·)).toArray.size + 1 ≤ 16777216
      simp; first | lia | omega
  refine x_cons (by kernel_rfl) (x_aug (v := .loc L) (ld_roads.trans e1) (by kernel_rfl) (q_list (by decide) (q_cons (q_bin (q_sub rfl (q_name (ld_roads.trans e1) (q_name (ld_k.trans e2) (.eq (getA_loc h3 hds) (.eq rfl (.eq (hadd 0 _ (by decide)) ?_))))))))))
  refine q_cons (q_bin (q_sub rfl (q_name (ld_roads.trans e1) (q_name (ld_k.trans e2) (.eq (getA_loc h3 hds) (.eq rfl (.eq (hadd 1 _ (by decide)) (q_nil ?_))))))))
  have hlr : (rp i).length ≤ 15 := by simp [rp, roads15]; first | lia | omega
  refine .eq (a := (.loc L, σ2.upd L (.list (rp (i + 1))))) ?_ (x_nil ⟨?_, fun x hx hy => ?_, upd_at, h4.trans (Keep.upd hL), h5⟩)
  · rw [hnext]
    show (match σ2.get L with
      | some (.list xs) => (lst? σ2 (AV.list [AV.str (roadS (ds ++ [0])), AV.str (roadS (ds ++ [1]))])).bind fun ys => if xs.length + ys.length ≤ 2 ^ 20 then some (AV.loc L, σ2.upd L (.list (xs ++ ys))) else none
      | _ => none) = _
    rw [h3]
    show (if (rp i).length + 2 ≤ 2 ^ 20 then _ else none) = _
    rw [if_pos (by first | lia | omega)]
  · show (m'.set "roads" (.loc L)) "roads" = _
    rw [Fm.set, if_pos rfl]
  · show (m'.set "roads" (.loc L)) x = _
    rw [Fm.set, if_neg hy]; exact e3 x hx hy
end Mine
namespace Mine
open PySem PyProof.Rows

noncomputable def dueLooks : Stmt := ((bodyOf (defAt pw 63))[2]?).getD (.Pass default)
theorem symName_ok {j : Nat} (h : j < 4) : SymOk (256 + (j : Int)) := .inr ⟨j, h, rfl⟩
theorem roads_lt : ∀ ds ∈ roads15, ∀ d ∈ ds, d < 2 := by decide
theorem Keep.get {n l : Nat} {σ σ' : Sto} (a : Keep n σ σ') (h : l < n) {o : AObj} (e : σ.get l = some o) : σ'.get l = some o := (a.1 l h).trans e

theorem due_looks {br : Nat → List Int} (G : GOk br) {n L : Nat} {m : Fm} {σ : Sto} {P : Fl × Fm × Sto → Prop} (hr : m "roads" = some (.loc L)) (hl : m "leads" = some (leadsA br)) (h0 : σ.get L = some (.list (rp 7))) (hL : L < σ.nx)
    (hP : ∀ σ', Keep σ.nx σ σ' → P (.next, m.set "looks" (looksA br), σ')) : Sat (ex cfgP (F (n + 1)) dueLooks scD m σ) P := by
  refine x_assign rfl (by kernel_rfl) (q_listcomp (by kernel_rfl) (q_src rfl ?_))
  refine .eq (a := (.range 0 4, σ)) (by kernel_rfl) ?_
  refine compA_inv (xs := [.int 0, .int 1, .int 2, .int 3]) (I := fun i b => b.1 = ⟨.ki [], ((List.range 4).take i).map (rowA br)⟩ ∧ Keep σ.nx σ b.2) ⟨by kernel_rfl, by kernel_rfl⟩ ⟨rfl, Keep.refl⟩ (fun i b h => by kernel_rfl) (fun b h => ?_) (fun i b hi h => ?_)
  · obtain ⟨acc, σ'⟩ := b
    obtain ⟨h1, h2⟩ := h
    simp only at h1
    subst h1
    exact hP σ' h2
  · obtain ⟨acc, σ'⟩ := b
    obtain ⟨h1, h2⟩ := h
    simp only at h1 h2
    subst h1
    have hi4 : i < 4 := hi
    have ex0 : ([.int 0, .int 1, .int 2, .int 3] : List AV)[i] = .int (i : Int) := by
      have : i = 0 ∨ i = 1 ∨ i = 2 ∨ i = 3 := or4 (by first | assumption | lia | omega)
      rcases this with rfl | rfl | rfl | rfl <;> rfl
    rw [ex0]
    refine .eq rfl (t_trs0 ?_)
    rw [if_pos rfl]
    refine q_gens0 (q_emitL (q_listcomp (by kernel_rfl) (q_src rfl (q_name (v := .loc L) (Eq.trans (b := m "roads") (by kernel_rfl) hr) ?_))))
    refine compA_inv (xs := rp 7) (I := fun k b => b.1 = ⟨.ki [], ((rowL br i).take k).map optA⟩ ∧ Keep σ.nx σ b.2) ⟨by kernel_rfl, by kernel_rfl⟩ ⟨rfl, h2⟩ (fun k b h => ?_) (fun b h => ?_) (fun k b hk h => ?_)
    · exact items_loc (h.2.get hL h0)
    · obtain ⟨acc, σ2⟩ := b
      obtain ⟨h3, h4⟩ := h
      simp only at h3 h4
      subst h3
      have hlen : (rp 7).length = (rowL br i).length := by simp [rp, rowL, roads15]
      rw [hlen, List.take_length]
      refine ⟨by simp; first | lia | omega, ?_, h4⟩
      have : i = 0 ∨ i = 1 ∨ i = 2 ∨ i = 3 := or4 (by first | assumption | lia | omega)
      rcases this with rfl | rfl | rfl | rfl <;> kernel_rfl
    · obtain ⟨acc, σ2⟩ := b
      obtain ⟨h3, h4⟩ := h
      simp only at h3 h4
      subst h3
      have hk15 : k < roads15.length := hk
      have ex1 : (rp 7)[k] = .str (roadS roads15[k]) := by simp [rp]
      refine .eq (a := ((inner _ ((inner _ m).set "n" (.int (i : Int)))).set "road" (.str (roadS roads15[k])))) (by rw [show (rp 7)[k]'hk = .str (roadS roads15[k]) from ex1]; rfl) (t_trs0 ?_)
      have hrow : ((rowL br i).take (k + 1)) = (rowL br i).take k ++ [there br (256 + (i : Int)) roads15[k]] := by
        rw [List.take_succ]
        congr 1
        simp [rowL, List.getElem?_map, List.getElem?_eq_getElem hk15]
      have hds := roads_lt _ (List.getElem_mem hk15)
      generalize roads15[k] = ds at *
      rw [if_pos rfl]
      refine q_gens0 (q_emitL (q_call rfl (g := .glob "_law_there") (by kernel_rfl) (q_cons (q_name (Eq.trans (b := m "leads") (by kernel_rfl) hl) (q_cons (q_bin (.eq rfl (q_name (v := .int (i : Int)) (by kernel_rfl) (.eq rfl (q_cons (q_name (v := .str (roadS ds)) (by kernel_rfl) (q_nil ?_))))))))))))
      refine (call_there G (n := n) (symName_ok hi4) hds).mono fun r hr => ?_
      subst hr
      refine ⟨?_, ?_, h4.trans (Keep.upto h4.2)⟩
      · simp [rowL, roads15]; first | lia | omega
      · rw [hrow]; simp
end Mine
namespace Mine
open PySem PyProof.Rows

noncomputable def dueUnlike : Stmt := ((bodyOf (defAt pw 63))[3]?).getD (.Pass default)

theorem toPy_row {br : Nat → List Int} {k n : Nat} : toPy (k + 1) (rowA br n) = some (.list ((rowL br n).map optPy)) := by
  show ((toPys k ((rowL br n).map optA)).bind fun ds => some (PyData.list ds)) = _
  rw [toPys_opt]; rfl
theorem mem_rows {br : Nat → List Int} {σ : Sto} {n : Nat} {ns : List Nat} : memA σ (rowA br n) (.list (ns.map (rowA br))) = some (ns.any fun m => decide (rowL br m = rowL br n)) := by
  show ((toPys 7 (ns.map (rowA br))).bind fun ds => (toPy 8 (rowA br n)).bind fun d => some (ds.any fun y => PyData.eqv y d)) = _
  rw [show toPys 7 (ns.map (rowA br)) = _ from mapO_all fun _ => toPy_row, toPy_row]
  show some ((ns.map _).any _) = _
  rw [List.any_map]
  exact congrArg (fun f => some (ns.any f)) (funext fun m => eqvAll_opt)

theorem due_unlike {br : Nat → List Int} {Φ : Fns} {m : Fm} {σ : Sto} {P : Fl × Fm × Sto → Prop} (hl : m "looks" = some (looksA br)) (hP : P (.next, m.set "unlike" (.int (unlikeL br).length), σ)) : Sat (ex cfgP Φ dueUnlike scD m σ) P := by
  refine x_assign rfl (by kernel_rfl) (q_call rfl (g := .bi .len) (by kernel_rfl) (q_cons (q_listcomp (by kernel_rfl) (q_src rfl ?_))))
  refine .eq (a := (.range 0 4, σ)) (by kernel_rfl) ?_
  refine compA_inv (xs := [.int 0, .int 1, .int 2, .int 3]) (I := fun i b => b = (⟨.ki [], ((List.range i).filter fun n => !((List.range n).any fun m => decide (rowL br m = rowL br n))).map fun (n : Nat) => AV.int (n : Int)⟩, σ)) ⟨by kernel_rfl, by kernel_rfl⟩ rfl (fun i b h => by kernel_rfl) (fun b h => ?_) (fun i b hi h => ?_)
  · subst h
    refine q_nil (.eq (a := (.int (unlikeL br).length, σ)) ?_ hP)
    show some (AV.int ((((List.range 4).filter fun n => !((List.range n).any fun m => decide (rowL br m = rowL br n))).map fun (n : Nat) => AV.int (n : Int)).length : Nat), σ) = _
    rw [List.length_map]
    rfl
  · subst h
    have hi4 : i < 4 := hi
    have ex0 : ([.int 0, .int 1, .int 2, .int 3] : List AV)[i]'hi = .int (i : Int) := by
      have : i = 0 ∨ i = 1 ∨ i = 2 ∨ i = 3 := or4 (by first | assumption | lia | omega)
      rcases this with rfl | rfl | rfl | rfl <;> rfl
    have hrow : ∀ {σ : Sto}, getA σ (looksA br) (.int (i : Int)) = some (rowA br i) := fun {σ} => by
      have : i = 0 ∨ i = 1 ∨ i = 2 ∨ i = 3 := or4 (by first | assumption | lia | omega)
      rcases this with rfl | rfl | rfl | rfl <;> kernel_rfl
    have hcut : ∀ {p : Pos} {σ : Sto}, sliceA cfgP p σ (looksA br) none (some (i : Int)) = some (mkL cfgP p ((List.range i).map (rowA br)) σ) := fun {p σ} => by
      have : i = 0 ∨ i = 1 ∨ i = 2 ∨ i = 3 := or4 (by first | assumption | lia | omega)
      rcases this with rfl | rfl | rfl | rfl <;> kernel_rfl
    rw [ex0]
    refine .eq rfl (t_trs1 (t_cmp (q_sub rfl (q_name (Eq.trans (b := m "looks") (by kernel_rfl) hl) (q_name (v := .int (i : Int)) (by kernel_rfl) (.eq hrow (q_slice (q_name (Eq.trans (b := m "looks") (by kernel_rfl) hl) (q_none (q_some (q_name (v := .int (i : Int)) (by kernel_rfl) (.eq rfl (.eq rfl (.eq hcut ?_)))))))))))))) 
    have hmk : ∀ (q : Pos) (xs : List AV), cfgP.mu q = false → mkL cfgP q xs σ = (.list xs, σ) := fun q xs h => by unfold mkL; rw [h]; rfl
    rw [hmk _ _ (by kernel_rfl)]
    refine .eq (a := !((List.range i).any fun m => decide (rowL br m = rowL br i))) ?_ ?_
    · show ((memA σ (rowA br i) (.list ((List.range i).map (rowA br)))).bind fun b => some !b) = _
      rw [mem_rows]; rfl
    · have hfil : (List.range (i + 1)).filter (fun n => !((List.range n).any fun m => decide (rowL br m = rowL br n))) = (List.range i).filter (fun n => !((List.range n).any fun m => decide (rowL br m = rowL br n))) ++ if (!((List.range i).any fun m => decide (rowL br m = rowL br i))) = true then [i] else [] := range_filter
      split
      · rename_i q
        simp only at q
        refine q_gens0 (q_emitL (q_name (v := .int (i : Int)) (by kernel_rfl) ⟨?_, ?_⟩))
        · have := List.length_filter_le (fun n => !((List.range n).any fun m => decide (rowL br m = rowL br n))) (List.range i)
          simp at this ⊢
          first | lia | omega
        · rw [hfil, if_pos q, List.map_append]
          rfl
      · rename_i q
        simp only at q
        rw [hfil, if_neg q, List.append_nil]
end Mine
namespace Mine
open PySem PyProof.Rows

noncomputable def dueFor : Stmt := ((bodyOf (defAt pw 63))[5]?).getD (.Pass default)
noncomputable def dueParts : Stmt := match dueFor with
  | .For _ _ b _ _ => (b[0]?).getD (.Pass default)
  | _ => .Pass default
noncomputable def dueApp : Stmt := match dueFor with
  | .For _ _ b _ _ => (b[1]?).getD (.Pass default)
  | _ => .Pass default

theorem eqA_opt {σ : Sto} {x y : Option Int} : eqA σ (optA x) (optA y) = some (decide (x = y)) := by
  have : ∀ x y : Option Int, eqA σ (optA x) (optA y) = some (PyData.eqv (optPy x) (optPy y)) := fun x y => by cases x <;> cases y <;> rfl
  rw [this, eqv_opt]
noncomputable def ints15 : List AV := (List.range 15).map fun (i : Nat) => AV.int (i : Int)
theorem row_at {br : Nat → List Int} {σ : Sto} {n k : Nat} (hk : k < 15) : getA σ (rowA br n) (.int (k : Int)) = some (optA ((rowL br n).getD k none)) := by
  have hl : k < (rowL br n).length := by simp [rowL, roads15]; first | lia | omega
  refine getA_list ?_
  rw [List.getElem?_map, List.getElem?_eq_getElem hl]
  simp [List.getD, List.getElem?_eq_getElem hl]
theorem looks_at {br : Nat → List Int} {σ : Sto} {n : Nat} (hn : n < 4) : getA σ (looksA br) (.int (n : Int)) = some (rowA br n) := by
  have : n = 0 ∨ n = 1 ∨ n = 2 ∨ n = 3 := or4 (by first | assumption | lia | omega)
  rcases this with rfl | rfl | rfl | rfl <;> kernel_rfl
theorem rp_at {k : Nat} (hk : k < 15) : (rp 7)[k]? = some (.str (roadS (roads15.getD k []))) := by
  have hl : k < roads15.length := hk
  have : rp 7 = roads15.map fun ds => AV.str (roadS ds) := rfl
  rw [this, List.getElem?_map, List.getElem?_eq_getElem hl]
  simp [List.getD, List.getElem?_eq_getElem hl]

theorem due_parts {br : Nat → List Int} {Φ : Fns} {m : Fm} {σ : Sto} {L : Nat} {q : Nat × Nat} {P : Fl × Fm × Sto → Prop} (hq : q.1 < 4 ∧ q.2 < 4) (hr : m "roads" = some (.loc L)) (hL : σ.get L = some (.list (rp 7))) (hl : m "looks" = some (looksA br))
    (hu : m "unlike" = some (.int (unlikeL br).length)) (h1 : m "one" = some (.int (256 + (q.1 : Int)))) (h2 : m "other" = some (.int (256 + (q.2 : Int))))
    (hP : P (.next, m.set "parts" (.list (((List.range 15).filter (pk br q)).map fun (k : Nat) => .int (k : Int))), σ)) : Sat (ex cfgP Φ dueParts scD m σ) P := by
  refine x_assign rfl (by kernel_rfl) (q_listcomp (by kernel_rfl) (q_src rfl ?_))
  refine .eq (a := (.range 0 15, σ)) (by kernel_rfl) ?_
  refine compA_inv (xs := ints15) (I := fun i b => b = (⟨.ki [], ((List.range i).filter (pk br q)).map fun (k : Nat) => AV.int (k : Int)⟩, σ)) ⟨by kernel_rfl, by kernel_rfl⟩ rfl (fun i b h => by kernel_rfl) (fun b h => ?_) (fun i b hi h => ?_)
  · subst h
    exact hP
  · subst h
    have hi15 : i < 15 := by simpa [ints15] using hi
    have ex0 : ints15[i]'hi = .int (i : Int) := by simp [ints15]
    rw [ex0]
    refine .eq rfl (t_trs1 (t_bool (t_and (t_cmp (q_call rfl (g := .bi .len) (by kernel_rfl) (q_cons (q_sub rfl (q_name (Eq.trans (b := m "roads") (by kernel_rfl) hr) (q_name (v := .int (i : Int)) (by kernel_rfl) (.eq (getA_loc hL (rp_at hi15)) (q_nil ?_)))))))))))
    have hds : (roads15.getD i []).length ≤ 3 := by
      have : ∀ k, k < 15 → (roads15.getD k []).length ≤ 3 := by decide
      exact this i hi15
    have hpk : pk br q i = (decide ((roads15.getD i []).length < (unlikeL br).length) && decide ((rowL br q.1).getD i none ≠ (rowL br q.2).getD i none)) := rfl
    have hfil : (List.range (i + 1)).filter (pk br q) = (List.range i).filter (pk br q) ++ if pk br q i = true then [i] else [] := range_filter
    refine .eq (a := (.int ((roads15.getD i []).length : Nat), σ)) ?_ ?_
    · show (if (roadS (roads15.getD i [])).length < 2 ^ 40 then some (AV.int (roadS (roads15.getD i [])).length, σ) else none) = _
      have : (roadS (roads15.getD i [])).length = (roads15.getD i []).length := by
        show ((roads15.getD i []).map (48 + ·)).toArray.size = _
        simp
      rw [this, if_pos (by first | lia | omega)]
    refine q_name (Eq.trans (b := m "unlike") (by kernel_rfl) hu) (.eq rfl ?_)
    generalize (roads15.getD i []).length = len at *
    by_cases hlt : len < (unlikeL br).length
    · rw [if_pos (by simpa using hlt)]
      have ho : ∀ {p p' p'' : Pos} {k : Nat} {sc : Scope} {m' : Fm} {B : AV × Sto → Prop} {x : Str} {a : Nat}, look cfgP sc m' x = some (.int (256 + (a : Int))) → B (.int (a : Int), σ) → Sat (ev cfgP Φ (.BinOp (.Name x p) .Sub (.Constant (.int 256) k p') p'') sc m' σ) B := fun hx hB =>
        q_bin (q_name hx (.eq rfl (.eq (a := (.int _, σ)) (show some (AV.int (256 + _ - 256), σ) = _ by congr 3; first | lia | omega) hB)))
      refine t_and (t_cmp (q_sub rfl (q_sub rfl (q_name (Eq.trans (b := m "looks") (by kernel_rfl) hl) (ho (Eq.trans (b := m "one") (by kernel_rfl) h1) (.eq (looks_at hq.1) (q_name (v := .int (i : Int)) (by kernel_rfl) (.eq (row_at hi15) ?_))))))))
      refine q_sub rfl (q_sub rfl (q_name (Eq.trans (b := m "looks") (by kernel_rfl) hl) (ho (Eq.trans (b := m "other") (by kernel_rfl) h2) (.eq (looks_at hq.2) (q_name (v := .int (i : Int)) (by kernel_rfl) (.eq (row_at hi15) ?_))))))
      refine .eq (a := !decide ((rowL br q.1).getD i none = (rowL br q.2).getD i none)) ?_ ?_
      · show ((eqA σ _ _).bind fun b => some !b) = _
        rw [eqA_opt]; rfl
      have hb : pk br q i = !decide ((rowL br q.1).getD i none = (rowL br q.2).getD i none) := by rw [hpk, decide_eq_true hlt, Bool.true_and, decide_not]
      rw [← hb]
      cases hp : pk br q i with
      | true =>
        rw [if_pos rfl]
        refine t_nil ?_
        rw [if_pos (by rfl)]
        refine q_gens0 (q_emitL (q_name (v := .int (i : Int)) (by kernel_rfl) ⟨?_, ?_⟩))
        · have := List.length_filter_le (pk br q) (List.range i)
          simp at this ⊢
          first | lia | omega
        · rw [hfil, hp, if_pos rfl, List.map_append]
          rfl
      | false =>
        rw [if_neg (by simp)]
        rw [if_neg (by simp)]
        rw [hp, if_neg (by simp), List.append_nil] at hfil
        rw [hfil]
    · rw [if_neg (by simpa using hlt)]
      have : pk br q i = false := by rw [hpk, decide_eq_false hlt]; rfl
      rw [if_neg (by simp)]
      rw [this, if_neg (by simp), List.append_nil] at hfil
      rw [hfil]
end Mine
namespace Mine
open PySem PyProof.Rows

theorem toPys_ints {k : Nat} {xs : List Int} : toPys k (xs.map AV.int) = some (xs.map PyData.int) := mapO_all fun _ => by cases k <;> rfl

theorem due_app {br : Nat → List Int} {Φ : Fns} {m : Fm} {σ : Sto} {L D : Nat} {q : Nat × Nat} {ds : List AV} {P : Fl × Fm × Sto → Prop} (hr : m "roads" = some (.loc L)) (hL : σ.get L = some (.list (rp 7))) (hd : m "due" = some (.loc D)) (hD : σ.get D = some (.list ds)) (hlen : ds.length < 2 ^ 20)
    (hp : m "parts" = some (.list (((List.range 15).filter (pk br q)).map fun (k : Nat) => .int (k : Int)))) (hP : P (.next, m, σ.upd D (.list (ds ++ [dueA (due br q)])))) : Sat (ex cfgP Φ dueApp scD m σ) P := by
  refine x_expr rfl (q_meth (by decide) (q_name (Eq.trans (b := m "due") (by kernel_rfl) hd) (.eq (res_app hD) (q_cons (q_if (t_cmp (q_name (Eq.trans (b := m "parts") (by kernel_rfl) hp) (.eq (a := (.list [], σ)) (by kernel_rfl) ?_))))))))
  have hfind : (List.range 15).find? (pk br q) = ((List.range 15).filter (pk br q)).head? := by rw [List.head?_filter]
  have hmem : ∀ k ∈ (List.range 15).filter (pk br q), k < 15 := fun k hk => List.mem_range.mp (List.mem_filter.mp hk).1
  have hdue : due br q = (((List.range 15).filter (pk br q)).head?).map fun k => roads15.getD k [] := by rw [due, hfind]
  generalize (List.range 15).filter (pk br q) = ks at *
  cases ks with
  | nil =>
    refine .eq (a := false) (by kernel_rfl) ?_
    rw [if_neg (by simp)]
    refine .eq rfl (q_nil (.eq (run_app hD hlen) ?_))
    rw [hdue] at hP
    exact hP
  | cons k0 ks =>
    refine .eq (a := true) ?_ ?_
    · show (((toPy 8 (shallow σ (.list ((k0 :: ks).map fun (k : Nat) => AV.int (k : Int))))).bind fun a => (toPy 8 (shallow σ (.list []))).bind fun b => some (PyData.eqv a b)).bind fun b => some !b) = _
      have : toPy 8 (shallow σ (.list ((k0 :: ks).map fun (k : Nat) => AV.int (k : Int)))) = some (.list ((k0 :: ks).map fun (k : Nat) => PyData.int (k : Int))) := by
        have z := toPys_ints (k := 7) (xs := (k0 :: ks).map fun (k : Nat) => (k : Int))
        rw [List.map_map, List.map_map] at z
        show (toPys 7 ((k0 :: ks).map fun (k : Nat) => AV.int (k : Int))).bind (fun ds => some (PyData.list ds)) = _
        rw [show (fun (k : Nat) => AV.int (k : Int)) = AV.int ∘ (fun (k : Nat) => (k : Int)) from rfl, z]
        rfl
      rw [this]
      rfl
    · rw [if_pos (by rfl)]
      refine q_sub rfl (q_name (Eq.trans (b := m "roads") (by kernel_rfl) hr) (q_sub rfl (q_name (Eq.trans (b := m "parts") (by kernel_rfl) hp) (.eq rfl (.eq (getA_list (i := 0) rfl) (.eq (getA_loc hL (rp_at (hmem k0 List.mem_cons_self))) (q_nil (.eq (run_app hD hlen) ?_))))))))
      rw [hdue] at hP
      exact hP
end Mine
namespace Mine
open PySem PyProof.Rows

noncomputable def qA (q : Nat × Nat) : AV := .tuple [.int (256 + (q.1 : Int)), .int (256 + (q.2 : Int))]
theorem ld_q {m : Fm} : look cfgP scD m "questions" = m "questions" := by kernel_rfl
theorem ld_due {m : Fm} : look cfgP scD m "due" = m "due" := by kernel_rfl

theorem call_due {br : Nat → List Int} (G : GOk br) {n : Nat} {qs : List (Nat × Nat)} (hq : ∀ q ∈ qs, q.1 < 4 ∧ q.2 < 4) (hql : qs.length ≤ 1000) {σ : Sto} :
    Sat (F (n + 2) "_law_due" [leadsA br, .list (qs.map qA)] σ) fun r => r.1 = .list (qs.map fun q => dueA (due br q)) ∧ Keep σ.nx σ r.2 := by
  rw [F_def (i := 63) (by decide) (by kernel_rfl)]
  refine sat_call (by kernel_rfl) ?_
  refine x_cons (by kernel_rfl) (x_assign rfl (by kernel_rfl) (.eq (a := (.loc σ.nx, σ.new (.list (rp 0)))) (by kernel_rfl) ?_))
  refine x_cons (by kernel_rfl) (due_roads (σ := σ) (L := σ.nx) (by kernel_rfl) (Nat.le_refl _) new_get (Keep.new (Nat.le_refl _)) fun m1 σ1 r1 f1 g1 k1 n1 => ?_)
  have hl1 : m1 "leads" = some (leadsA br) := (f1 _ (by decide) (by decide)).trans (by kernel_rfl)
  have hq1 : m1 "questions" = some (.list (qs.map qA)) := (f1 _ (by decide) (by decide)).trans (by kernel_rfl)
  have hn1 : σ.nx < σ1.nx := by rw [n1]; exact Nat.lt_succ_self _
  refine x_cons (by kernel_rfl) (due_looks G (n := n) r1 hl1 g1 hn1 fun σ2 k2 => ?_)
  refine x_cons (by kernel_rfl) (due_unlike (br := br) (by kernel_rfl) ?_)
  have g2 := k2.get hn1 g1
  have hn2 : σ.nx < σ2.nx := Nat.lt_of_lt_of_le hn1 k2.2
  have k02 : Keep σ.nx σ σ2 := k1.trans (k2.less (Nat.le_of_lt hn1))
  refine x_cons (by kernel_rfl) (x_assign rfl (by kernel_rfl) (.eq (a := (.loc σ2.nx, σ2.new (.list []))) (by kernel_rfl) ?_))
  refine x_cons (by kernel_rfl) ?_
  refine x_for (xs := qs.map qA) (I := fun i s => s.1 "roads" = some (.loc σ.nx) ∧ s.1 "looks" = some (looksA br) ∧ s.1 "unlike" = some (.int (unlikeL br).length) ∧ s.1 "due" = some (.loc σ2.nx) ∧ s.2.get σ.nx = some (.list (rp 7)) ∧
    s.2.get σ2.nx = some (.list ((qs.take i).map fun q => dueA (due br q))) ∧ Keep σ.nx σ s.2) ?_
  refine q_name (v := .list (qs.map qA)) (ld_q.trans ?_) ⟨rfl, ⟨?_, ?_, ?_, ?_, ?_, new_get, k02.trans (Keep.new (Nat.le_of_lt hn2))⟩, fun i s h => rfl, fun s h => ?_, fun i s hi h => ?_⟩
  · exact Eq.trans (b := m1 "questions") (by kernel_rfl) hq1
  · exact Eq.trans (b := m1 "roads") (by kernel_rfl) r1
  · kernel_rfl
  · kernel_rfl
  · kernel_rfl
  · exact (Keep.new (n := σ2.nx) (Nat.le_refl _)).get hn2 g2
  · obtain ⟨m3, σ3⟩ := s
    obtain ⟨h1, h2, h3, h4, h5, h6, h7⟩ := h
    simp only at h1 h2 h3 h4 h5 h6 h7
    rw [List.length_map, List.take_length] at h6
    refine x_consF (x := "due") (by kernel_rfl) h4 h6 (x_return (q_name (v := .list (qs.map fun q => dueA (due br q))) (by kernel_rfl) ⟨rfl, ?_⟩))
    exact (h7.trans (Keep.forget (Nat.le_of_lt hn2))).trans (Keep.upto (Nat.le_refl _))
  · obtain ⟨m3, σ3⟩ := s
    obtain ⟨h1, h2, h3, h4, h5, h6, h7⟩ := h
    simp only at h1 h2 h3 h4 h5 h6 h7
    rw [List.length_map] at hi
    have hqi := hq _ (List.getElem_mem hi)
    have htk : qs.take (i + 1) = qs.take i ++ [qs[i]] := by rw [List.take_add_one, List.getElem?_eq_getElem hi]; rfl
    have ex0 : (qs.map qA)[i]'(by simpa using hi) = qA qs[i] := by simp
    rw [ex0]
    generalize qs[i] = q at *
    refine .eq (a := (m3.set "one" (.int (256 + (q.1 : Int)))).set "other" (.int (256 + (q.2 : Int)))) rfl ?_
    refine x_cons (by kernel_rfl) (due_parts (br := br) (L := σ.nx) (q := q) hqi ?_ h5 ?_ ?_ ?_ ?_ ?_)
    · exact Eq.trans (b := m3 "roads") (by kernel_rfl) h1
    · exact Eq.trans (b := m3 "looks") (by kernel_rfl) h2
    · exact Eq.trans (b := m3 "unlike") (by kernel_rfl) h3
    · kernel_rfl
    · kernel_rfl
    refine x_cons (by kernel_rfl) (due_app (br := br) (L := σ.nx) (D := σ2.nx) (q := q) ?_ h5 ?_ h6 ?_ ?_ ?_)
    · exact Eq.trans (b := m3 "roads") (by kernel_rfl) h1
    · exact Eq.trans (b := m3 "due") (by kernel_rfl) h4
    · simp; first | lia | omega
    · kernel_rfl
    refine x_nil ⟨?_, ?_, ?_, ?_, ?_, ?_, h7.trans (Keep.upd (Nat.le_of_lt hn2))⟩
    · exact Eq.trans (b := m3 "roads") (by kernel_rfl) h1
    · exact Eq.trans (b := m3 "looks") (by kernel_rfl) h2
    · exact Eq.trans (b := m3 "unlike") (by kernel_rfl) h3
    · exact Eq.trans (b := m3 "due") (by kernel_rfl) h4
    · exact (Keep.upd (n := σ2.nx) (Nat.le_refl _)).get hn2 h5
    · rw [htk, List.map_append]; exact upd_at
end Mine
namespace Mine
open PySem PyProof.Rows

theorem signs_chars {cs : List Nat} (h : ∀ x ∈ cs, x < 0x110000) : signs? (chars cs) = some cs := by
  induction cs with
  | nil => rfl
  | cons c cs ih =>
    show (if c < 0x110000 then (signs? (chars cs)).map (c :: ·) else none) = _
    rw [if_pos (h c (.head _)), ih fun x hx => h x (.tail _ hx)]; rfl

theorem get_word {n l lf : Nat} {ln : Int} {cs tok rest : List Nat} {k : Nat} {σ : Sto} (h1 : σ.get l = some (.lexer ln lf [])) (h2 : σ.get lf = some (.list (chars cs))) (hlt : ∀ x ∈ cs, x < 0x110000) (hlen : cs.length < 2 ^ 20) (ht : token cs 0 = (tok, rest, k)) :
    F (n + 1) "get_token" [.loc l] σ = some (.str ⟨tok.toArray⟩, lexAt σ l lf (ln + (k : Nat)) rest) := by
  show (onX σ.get l fun ln lf ts => getX σ l ln lf ts) = _
  rw [onX, h1]
  show (onL σ.get lf fun xs => (signs? xs).bind fun cs => if cs.length < 2 ^ 20 then some (AV.str ⟨(token cs 0).1.toArray⟩, lexAt σ l lf (ln + (token cs 0).2.2) (token cs 0).2.1) else none) = _
  rw [onL, h2]
  show ((signs? (chars cs)).bind _) = _
  rw [signs_chars hlt]
  show (if cs.length < 2 ^ 20 then _ else none) = _
  rw [if_pos hlen, ht]
theorem get_pushed {n l lf : Nat} {ln : Int} {t : AV} {ts : List AV} {σ : Sto} (h1 : σ.get l = some (.lexer ln lf (t :: ts))) : F (n + 1) "get_token" [.loc l] σ = some (t, σ.upd l (.lexer ln lf ts)) := by
  show (onX σ.get l fun ln lf ts => getX σ l ln lf ts) = _
  rw [onX, h1]; rfl
theorem push_word {n l lf : Nat} {ln : Int} {t : AV} {ts : List AV} {σ : Sto} (h1 : σ.get l = some (.lexer ln lf ts)) (hlen : ts.length < 2 ^ 20) : F (n + 1) "push_token" [.loc l, t] σ = some (.none, σ.upd l (.lexer ln lf (ts ++ [t]))) := by
  show (onX σ.get l fun ln lf ts => if ts.length < 2 ^ 20 then some (AV.none, σ.upd l (.lexer ln lf (ts ++ [t]))) else none) = _
  rw [onX, h1]; exact if_pos hlen

/-- the store while a question is looked at -/
structure AS (s : Sto) (l lf : Nat) (ln : Int) (cs : List Nat) (push : List AV) (A : Nat) (ans : List AV) (S : Nat) (seen : List AV) : Prop where
  lex : s.get l = some (.lexer ln lf push)
  left : s.get lf = some (.list (chars cs))
  ansF : s.get A = some (.list ans)
  seenF : s.get S = some (.list seen)
  l1 : l < s.nx
  l2 : lf < s.nx
  l3 : A < s.nx
  l4 : S < s.nx
  n1 : lf ≠ A
  n2 : lf ≠ S
  n3 : A ≠ S
  tab : ∃ b, s.get 0 = some (.tab b)

section
variable {s s' : Sto} {l lf A S a : Nat} {ln : Int} {cs : List Nat} {push ans seen : List AV} {o : AObj}
theorem AS.keep (h : AS s l lf ln cs push A ans S seen) (k : Keep s.nx s s') : AS s' l lf ln cs push A ans S seen :=
  ⟨k.get h.l1 h.lex, k.get h.l2 h.left, k.get h.l3 h.ansF, k.get h.l4 h.seenF, Nat.lt_of_lt_of_le h.l1 k.2, Nat.lt_of_lt_of_le h.l2 k.2, Nat.lt_of_lt_of_le h.l3 k.2, Nat.lt_of_lt_of_le h.l4 k.2, h.n1, h.n2, h.n3, h.tab.imp fun _ e => k.get (Nat.lt_of_le_of_lt (Nat.zero_le _) h.l1) e⟩
theorem AS.upto (h : AS s l lf ln cs push A ans S seen) : AS (s.upto s.nx) l lf ln cs push A ans S seen := h.keep (Keep.upto (Nat.le_refl _))
theorem AS.new (h : AS s l lf ln cs push A ans S seen) : AS (s.new o) l lf ln cs push A ans S seen := h.keep (Keep.new (Nat.le_refl _))
theorem AS.lA (h : AS s l lf ln cs push A ans S seen) : A ≠ l := fun q => by have := h.ansF; rw [q, h.lex] at this; cases this
theorem AS.lS (h : AS s l lf ln cs push A ans S seen) : S ≠ l := fun q => by have := h.seenF; rw [q, h.lex] at this; cases this
theorem AS.llf (h : AS s l lf ln cs push A ans S seen) : lf ≠ l := fun q => by have := h.left; rw [q, h.lex] at this; cases this
theorem upd_ne {b : Nat} (h : b ≠ a) : (s.upd a o).get b = s.get b := if_neg h
theorem AS.z1 (h : AS s l lf ln cs push A ans S seen) : 0 ≠ l := fun q => by obtain ⟨b, e⟩ := h.tab; rw [q, h.lex] at e; cases e
theorem AS.z2 (h : AS s l lf ln cs push A ans S seen) : 0 ≠ lf := fun q => by obtain ⟨b, e⟩ := h.tab; rw [q, h.left] at e; cases e
theorem AS.z3 (h : AS s l lf ln cs push A ans S seen) : 0 ≠ A := fun q => by obtain ⟨b, e⟩ := h.tab; rw [q, h.ansF] at e; cases e
theorem AS.z4 (h : AS s l lf ln cs push A ans S seen) : 0 ≠ S := fun q => by obtain ⟨b, e⟩ := h.tab; rw [q, h.seenF] at e; cases e
theorem AS.setPush {push' : List AV} {ln' : Int} (h : AS s l lf ln cs push A ans S seen) : AS (s.upd l (.lexer ln' lf push')) l lf ln' cs push' A ans S seen :=
  ⟨upd_at, (upd_ne h.llf).trans h.left, (upd_ne h.lA).trans h.ansF, (upd_ne h.lS).trans h.seenF, h.l1, h.l2, h.l3, h.l4, h.n1, h.n2, h.n3, h.tab.imp fun _ e => (upd_ne h.z1).trans e⟩
theorem AS.at_ {cs' : List Nat} {ln' : Int} (h : AS s l lf ln cs push A ans S seen) : AS (lexAt s l lf ln' cs') l lf ln' cs' [] A ans S seen :=
  ⟨lexAt_get, lexAt_left h.llf, ((upd_ne h.lA).trans (upd_ne h.n1.symm)).trans h.ansF, ((upd_ne h.lS).trans (upd_ne h.n2.symm)).trans h.seenF, h.l1, h.l2, h.l3, h.l4, h.n1, h.n2, h.n3, h.tab.imp fun _ e => ((upd_ne h.z1).trans (upd_ne h.z2)).trans e⟩
theorem AS.setSeen {seen' : List AV} (h : AS s l lf ln cs push A ans S seen) : AS (s.upd S (.list seen')) l lf ln cs push A ans S seen' :=
  ⟨(upd_ne h.lS.symm).trans h.lex, (upd_ne h.n2).trans h.left, (upd_ne h.n3).trans h.ansF, upd_at, h.l1, h.l2, h.l3, h.l4, h.n1, h.n2, h.n3, h.tab.imp fun _ e => (upd_ne h.z4).trans e⟩
theorem AS.setAns {ans' : List AV} (h : AS s l lf ln cs push A ans S seen) : AS (s.upd A (.list ans')) l lf ln cs push A ans' S seen :=
  ⟨(upd_ne h.lA.symm).trans h.lex, (upd_ne h.n1).trans h.left, upd_at, (upd_ne h.n3.symm).trans h.seenF, h.l1, h.l2, h.l3, h.l4, h.n1, h.n2, h.n3, h.tab.imp fun _ e => (upd_ne h.z3).trans e⟩
/-- another place is written -/
theorem AS.other (h : AS s l lf ln cs push A ans S seen) (h1 : a ≠ l) (h2 : a ≠ lf) (h3 : a ≠ A) (h4 : a ≠ S) (h5 : 0 ≠ a) : AS (s.upd a o) l lf ln cs push A ans S seen :=
  ⟨(upd_ne h1.symm).trans h.lex, (upd_ne h2.symm).trans h.left, (upd_ne h3.symm).trans h.ansF, (upd_ne h4.symm).trans h.seenF, h.l1, h.l2, h.l3, h.l4, h.n1, h.n2, h.n3, h.tab.imp fun _ e => (upd_ne h5).trans e⟩
end
end Mine
namespace Mine
open PySem PyProof.Rows

noncomputable abbrev scA : Scope := (defP 61).scope
noncomputable def whileBody : Stmt → List Stmt
  | .While _ b _ _ => b
  | _ => []
noncomputable def ifBody : Stmt → List Stmt
  | .If _ b _ _ => b
  | _ => []
noncomputable def stAt (l : List Stmt) (i : Nat) : Stmt := (l[i]?).getD (.Pass default)
noncomputable def ansOuter : Stmt := stAt (bodyOf (defAt pw 61)) 1
noncomputable def ansInner : Stmt := stAt (whileBody ansOuter) 1
noncomputable def ansIf2 : Stmt := stAt (whileBody ansInner) 7
noncomputable def ansGrow : Stmt := stAt (ifBody ansIf2) 2

/-- a triple that waits -/
noncomputable abbrev Trip := List Nat × Int × Int
noncomputable def tw (W : Int → Str) (t : Trip) : List AV := [.str (roadS t.1), .str (W t.2.1), .str (W t.2.2)]
noncomputable def flat (W : Int → Str) (Q : List Trip) : List AV := Q.flatMap (tw W)
noncomputable def newQ (r : List Nat) (bx bz : List Int) : List Trip := (List.range (min bx.length bz.length)).map fun i => (r ++ [i], bx.getD i 0, bz.getD i 0)

/-- the words of the symbols -/
structure WOk (Sy : Int → Prop) (W : Int → Str) (told wr : AV) : Prop where
  sym : ∀ {n : Nat} {σ : Sto} {s : Int}, Sy s → F (n + 1) "_law_symbol" [.str (W s), told] σ = some (.int s, σ.upto σ.nx)
  wr : ∀ {σ : Sto} {s : Int}, Sy s → s ≠ 0 → getA σ wr (.int s) = some (.str (W s))

theorem rule_get {br : Nat → List Int} {σ : Sto} {j i : Nat} (hi : i ≤ (br j).length) : getA σ (ruleA br j) (.int ((i : Int) + 1)) = some (.int ((br j).getD i 0)) := by
  have : getA σ (ruleA br j) (.int ((i + 1 : Nat) : Int)) = some (.int ((br j).getD i 0)) := by
    refine getA_list ?_
    rw [List.getElem?_map]
    show ((br j ++ [0])[i]?).map AV.int = _
    by_cases h : i < (br j).length
    · rw [List.getElem?_append_left h, List.getElem?_eq_getElem h]
      simp [List.getD, List.getElem?_eq_getElem h]
    · have : i = (br j).length := by first | lia | omega
      subst this
      simp [List.getD]
  exact this

theorem road_add {c : Cfg} {p : Pos} {σ : Sto} {r : List Nat} {d : Nat} (hr : r.length ≤ 1000) : binA c p .Add (.str (roadS r)) (.str ⟨#[48 + d]⟩) σ = some (.str (roadS (r ++ [d])), σ) := by
  show (if (roadS r).length + (⟨#[48 + d]⟩ : Str).length ≤ sizeLine then some (AV.str (roadS r ++ ⟨#[48 + d]⟩), σ) else none) = _
  rw [if_pos]
  · congr 3
    show (⟨((r.map (48 + ·)).toArray ++ #[48 + d])⟩ : Str) = ⟨((r ++ [d]).map (48 + ·)).toArray⟩
    simp
  · show (r.map (48 + ·)).toArray.size + 1 ≤ 16777216
    simp; first | lia | omega

theorem ans_grow {br : Nat → List Int} (G : GOk br) {Sy : Int → Prop} {W : Int → Str} {told wr : AV} (H : WOk Sy W told wr) (hSy : ∀ k, k < 4 → ∀ s ∈ br k, Sy s ∧ s ≠ 0) {n jx jz : Nat} (hx : jx < 4) (hz : jz < 4) {r : List Nat} (hr : r.length ≤ 1000)
    {m : Fm} {σ : Sto} {l lf A S Lf : Nat} {ln : Int} {cs : List Nat} {push ans seen : List AV} (a : AS σ l lf ln cs push A ans S seen) (hLf : σ.get Lf = some (.list [])) (hlt : Lf < σ.nx) (n1 : Lf ≠ l) (n2 : Lf ≠ lf) (n3 : Lf ≠ A) (n4 : Lf ≠ S)
    (h1 : m "here" = some (ruleA br jx)) (h2 : m "there" = some (ruleA br jz)) (h3 : m "k" = some (.int 1)) (h4 : m "fresh" = some (.loc Lf)) (h5 : m "road" = some (.str (roadS r))) (h6 : m "written" = some wr)
    {P : Fl × Fm × Sto → Prop} (hP : ∀ m' σ', (∀ x : Str, x ≠ "k" → x ≠ "fresh" → m' x = m x) → m' "fresh" = some (.loc Lf) → m' "k" = some (.int (((min (br jx).length (br jz).length : Nat) : Int) + 1)) → AS σ' l lf ln cs push A ans S seen → σ'.get Lf = some (.list (flat W (newQ r (br jx) (br jz)))) → σ.nx ≤ σ'.nx → P (.next, m', σ')) :
    Sat (ex cfgP (F (n + 1)) ansGrow scA m σ) P := by
  have hx2 := G.len jx hx
  have hz2 := G.len jz hz
  let wl : Nat → List AV := fun i => flat W ((List.range i).map fun i => (r ++ [i], (br jx).getD i 0, (br jz).getD i 0))
  refine x_while (n := min (br jx).length (br jz).length) (I := fun q s => ∃ i, i + q = min (br jx).length (br jz).length ∧ (∀ x : Str, x ≠ "k" → x ≠ "fresh" → s.1 x = m x) ∧ s.1 "fresh" = some (.loc Lf) ∧ s.1 "k" = some (.int ((i : Int) + 1)) ∧ AS s.2 l lf ln cs push A ans S seen ∧
    s.2.get Lf = some (.list (wl i)) ∧ σ.nx ≤ s.2.nx) (by show _ < 100000; first | lia | omega) ⟨0, by first | lia | omega, fun _ _ _ => rfl, h4, h3, a, hLf, Nat.le_refl _⟩ (fun q s h => ?_)
  obtain ⟨m2, σ2⟩ := s
  obtain ⟨i, hi, f1, f2, f3, a2, g2, nx2⟩ := h
  simp only at f1 f2 f3 a2 g2 nx2
  have e1 : m2 "here" = some (ruleA br jx) := (f1 _ (by decide) (by decide)).trans h1
  have e2 : m2 "there" = some (ruleA br jz) := (f1 _ (by decide) (by decide)).trans h2
  have e5 : m2 "road" = some (.str (roadS r)) := (f1 _ (by decide) (by decide)).trans h5
  have e6 : m2 "written" = some wr := (f1 _ (by decide) (by decide)).trans h6
  refine t_bool (t_and (t_not (t_plain rfl (q_call rfl (g := .glob "ISEOF") (by kernel_rfl) (q_cons (q_sub rfl (q_name (Eq.trans (b := m2 "here") (by kernel_rfl) e1) (q_name (Eq.trans (b := m2 "k") (by kernel_rfl) f3) (.eq (rule_get (by first | lia | omega)) (q_nil (.eq call_iseof (.eq rfl ?_))))))))))))
  have heq : ∀ x : Int, PyData.eqv (.int x) (.int 0) = (x == 0) := fun x => by simp [PyData.eqv]
  have hlen : ∀ {b : List Int} {j : Nat}, b.length ≤ j → b.getD j 0 = 0 := fun h => by simp [List.getD, List.getElem?_eq_none h]
  have hin : ∀ {b : List Int} {j : Nat}, j < b.length → b.getD j 0 ∈ b := fun {b j} h => by
    simp [List.getD, List.getElem?_eq_getElem h]
  simp only [heq]
  have hend : ∀ σ3, Keep σ2.nx σ2 σ3 → i = min (br jx).length (br jz).length → P (.next, m2, σ3) := fun σ3 k hi' => by
    subst hi'
    exact hP m2 σ3 f1 f2 f3 (a2.keep k) ((k.get (Nat.lt_of_lt_of_le hlt nx2) g2)) (Nat.le_trans nx2 k.2)
  have k1 : Keep σ2.nx σ2 (σ2.upto σ2.nx) := Keep.upto (Nat.le_refl _)
  by_cases hxi : i < (br jx).length
  · have hx0 := (hSy jx hx _ (hin hxi)).2
    rw [beq_eq_false_iff_ne.mpr hx0]
    rw [if_pos (by rfl)]
    refine t_and (t_not (t_plain rfl (q_call rfl (g := .glob "ISEOF") (by kernel_rfl) (q_cons (q_sub rfl (q_name (Eq.trans (b := m2 "there") (by kernel_rfl) e2) (q_name (Eq.trans (b := m2 "k") (by kernel_rfl) f3) (.eq (rule_get (by first | lia | omega)) (q_nil (.eq call_iseof (.eq rfl ?_)))))))))))
    simp only [heq]
    have k2 : Keep σ2.nx σ2 ((σ2.upto σ2.nx).upto (σ2.upto σ2.nx).nx) := k1.trans (Keep.upto (Nat.le_refl _))
    by_cases hzi : i < (br jz).length
    · have hz0 := (hSy jz hz _ (hin hzi)).2
      rw [beq_eq_false_iff_ne.mpr hz0]
      rw [if_pos (by rfl)]
      refine t_nil ?_
      rw [if_pos (by rfl)]
      have hstr : ∀ {c : Cfg} {Φ : Fns} {p : Pos} {σ : Sto}, callV c Φ p (.bi .str) [.int ((i : Int) + 1 - 1)] σ = some (.str ⟨#[48 + i]⟩, σ) := fun {c Φ p σ} => by
        have : i = 0 ∨ i = 1 := or2 (by first | assumption | lia | omega)
        rcases this with rfl | rfl <;> kernel_rfl
      refine x_cons (by kernel_rfl) (x_aug (v := .loc Lf) (Eq.trans (b := m2 "fresh") (by kernel_rfl) f2) (by kernel_rfl) (q_list (by decide) (q_cons (q_bin (q_name (Eq.trans (b := m2 "road") (by kernel_rfl) e5) (q_call rfl (g := .bi .str) (by kernel_rfl) (q_cons (q_bin (q_name (Eq.trans (b := m2 "k") (by kernel_rfl) f3) (.eq rfl (.eq rfl (q_nil (.eq hstr (.eq (road_add hr) ?_))))))))))))))
      refine q_cons (q_sub rfl (q_name (Eq.trans (b := m2 "written") (by kernel_rfl) e6) (q_sub rfl (q_name (Eq.trans (b := m2 "here") (by kernel_rfl) e1) (q_name (Eq.trans (b := m2 "k") (by kernel_rfl) f3) (.eq (rule_get (by first | lia | omega)) (.eq (H.wr (hSy jx hx _ (hin hxi)).1 hx0) ?_)))))))
      refine q_cons (q_sub rfl (q_name (Eq.trans (b := m2 "written") (by kernel_rfl) e6) (q_sub rfl (q_name (Eq.trans (b := m2 "there") (by kernel_rfl) e2) (q_name (Eq.trans (b := m2 "k") (by kernel_rfl) f3) (.eq (rule_get (by first | lia | omega)) (.eq (H.wr (hSy jz hz _ (hin hzi)).1 hz0) (q_nil ?_))))))))
      have g3 := k2.get (Nat.lt_of_lt_of_le hlt nx2) g2
      have a3 := a2.keep k2
      have nx3 : σ.nx ≤ ((σ2.upto σ2.nx).upto (σ2.upto σ2.nx).nx).nx := nx2
      generalize ((σ2.upto σ2.nx).upto (σ2.upto σ2.nx).nx) = σ3 at *
      have hwl : wl (i + 1) = wl i ++ tw W (r ++ [i], (br jx).getD i 0, (br jz).getD i 0) := by
        simp only [wl, flat, List.range_succ, List.map_append, List.flatMap_append, List.map_cons, List.map_nil, List.flatMap_cons, List.flatMap_nil, List.append_nil]
      have hwlen : (wl i).length ≤ 6 := by
        have : i = 0 ∨ i = 1 := or2 (by first | assumption | lia | omega)
        rcases this with rfl | rfl <;> simp [wl, flat, tw, List.range_succ]
      refine .eq (a := (.loc Lf, σ3.upd Lf (.list (wl (i + 1))))) ?_ ?_
      · rw [hwl]
        show (match σ3.get Lf with
          | some (.list xs) => (lst? σ3 (AV.list (tw W (r ++ [i], (br jx).getD i 0, (br jz).getD i 0)))).bind fun ys => if xs.length + ys.length ≤ 2 ^ 20 then some (AV.loc Lf, σ3.upd Lf (.list (xs ++ ys))) else none
          | _ => none) = _
        rw [g3]
        show (if (wl i).length + 3 ≤ 2 ^ 20 then _ else none) = _
        rw [if_pos (by first | lia | omega)]
      refine x_cons (by kernel_rfl) (x_aug (v := .int ((i : Int) + 1)) (Eq.trans (b := m2 "k") (by kernel_rfl) f3) (by kernel_rfl) (.eq rfl (.eq rfl (x_nil ?_))))
      refine ⟨q - 1, by first | lia | omega, i + 1, by first | lia | omega, fun x hx1 hx2 => ?_, by kernel_rfl, by kernel_rfl, a3.other n1 n2 n3 n4 (fun q => by obtain ⟨b, e⟩ := a3.tab; rw [q, g3] at e; cases e), upd_at, nx3⟩
      show ((m2.set "fresh" (.loc Lf)).set "k" (.int ((i : Int) + 1 + 1))) x = m x
      rw [Fm.set, if_neg hx1, Fm.set, if_neg hx2]
      exact f1 x hx1 hx2
    · rw [hlen (Nat.le_of_not_lt hzi)]
      rw [if_neg (by simp), if_neg (by simp)]
      exact hend _ k2 (by first | lia | omega)
  · rw [hlen (Nat.le_of_not_lt hxi)]
    rw [if_neg (by simp), if_neg (by simp)]
    exact hend _ k1 (by first | lia | omega)
end Mine
namespace Mine
open PySem PyProof.Rows

noncomputable def ansPush : Stmt := stAt (whileBody ansInner) 0

/-- where the fresh words stand -/
inductive FreshAt (s : Sto) (fr : List AV) : AV → Prop
  | val : FreshAt s fr (.list fr)
  | loc {L : Nat} : s.get L = some (.list fr) → L < s.nx → FreshAt s fr (.loc L)
theorem FreshAt.items {s : Sto} {fr : List AV} {v : AV} (h : FreshAt s fr v) : items? s v = some fr := by
  cases h with
  | val => rfl
  | loc g _ => exact items_loc g
theorem FreshAt.lst {s : Sto} {fr : List AV} {v : AV} (h : FreshAt s fr v) : lst? s v = some fr := by
  cases h with
  | val => rfl
  | loc g _ => simp only [lst?, g]
theorem FreshAt.shal {s : Sto} {fr : List AV} {v : AV} (h : FreshAt s fr v) : shallow s v = .list fr := by
  cases h with
  | val => rfl
  | loc g _ => simp only [shallow, g]
theorem FreshAt.keep {s s' : Sto} {fr : List AV} {v : AV} (h : FreshAt s fr v) (k : Keep s.nx s s') : FreshAt s' fr v := by
  cases h with
  | val => exact .val
  | loc g l => exact .loc (k.get l g) (Nat.lt_of_lt_of_le l k.2)
theorem FreshAt.upd {s : Sto} {fr : List AV} {v : AV} {a : Nat} {o o' : AObj} (h : FreshAt s fr v) (ha : s.get a = some o') (hne : ∀ xs, o' ≠ .list xs) : FreshAt (s.upd a o) fr v := by
  cases h with
  | val => exact .val
  | @loc L g l =>
    refine .loc ?_ l
    rw [upd_ne]
    · exact g
    · rintro rfl
      rw [g] at ha
      injection ha with ha
      exact hne _ ha.symm

theorem ans_push {n : Nat} {m : Fm} {σ : Sto} {l lf A S : Nat} {ln : Int} {cs : List Nat} {push ans seen fr : List AV} {v : AV} (a : AS σ l lf ln cs push A ans S seen) (hf : FreshAt σ fr v) (hb : push.length + fr.length < 2 ^ 20)
    (h1 : m "fresh" = some v) (h2 : m "lexer" = some (.loc l)) {P : Fl × Fm × Sto → Prop} (hP : ∀ m' σ', (∀ x : Str, x ≠ "word" → m' x = m x) → AS σ' l lf ln cs (push ++ fr) A ans S seen → FreshAt σ' fr v → σ'.nx = σ.nx → P (.next, m', σ')) : Sat (ex cfgP (F (n + 1)) ansPush scA m σ) P := by
  refine x_for (xs := fr) (I := fun i s => (∀ x : Str, x ≠ "word" → s.1 x = m x) ∧ AS s.2 l lf ln cs (push ++ fr.take i) A ans S seen ∧ FreshAt s.2 fr v ∧ s.2.nx = σ.nx) ?_
  refine q_name (Eq.trans (b := m "fresh") (by kernel_rfl) h1) ⟨hf.items, ⟨fun _ _ => rfl, by simpa using a, hf, rfl⟩, fun i s h => h.2.2.1.items, fun s h => ?_, fun i s hi h => ?_⟩
  · obtain ⟨m2, σ2⟩ := s
    obtain ⟨f1, a2, g2, x2⟩ := h
    simp only at f1 a2 g2 x2
    rw [List.take_length] at a2
    exact hP m2 σ2 f1 a2 g2 x2
  · obtain ⟨m2, σ2⟩ := s
    obtain ⟨f1, a2, g2, x2⟩ := h
    simp only at f1 a2 g2 x2
    have htk : fr.take (i + 1) = fr.take i ++ [fr[i]] := by rw [List.take_add_one, List.getElem?_eq_getElem hi]; rfl
    refine .eq (a := m2.set "word" fr[i]) rfl ?_
    generalize fr[i] = w at *
    refine x_cons (by kernel_rfl) (x_expr rfl (q_meth (by decide) (q_name (v := .loc l) (Eq.trans (b := m2 "lexer") (by kernel_rfl) ((f1 _ (by decide)).trans h2)) (.eq (res_push a2.lex) (q_cons (q_name (v := w) (by kernel_rfl) (q_nil ?_)))))))
    refine .eq (push_word (n := n) a2.lex (by simp; first | lia | omega)) (x_nil ⟨fun x hx => ?_, ?_, g2.upd a2.lex (fun xs q => by cases q), x2⟩)
    · show (m2.set "word" w) x = m x
      rw [Fm.set, if_neg hx]; exact f1 x hx
    · rw [htk, ← List.append_assoc]
      exact a2.setPush
end Mine
namespace Mine
open PySem PyProof.Rows

theorem len_fresh {c : Cfg} {Φ : Fns} {p : Pos} {s : Sto} {fr : List AV} {v : AV} (h : FreshAt s fr v) : callV c Φ p (.bi .len) [v] s = some (.int fr.length, s) := by
  cases h with
  | val => rfl
  | loc g l => exact len_loc g

structure QSt (W : Int → Str) (told wr : AV) (br : Nat → List Int) (l lf A S : Nat) (ln : Int) (cs : List Nat) (ans : List AV) (m : Fm) (s : Sto) (Q : List Trip) (found : Option (List Nat)) (seen : List Int) : Prop where
  lexer : m "lexer" = some (.loc l)
  leads : m "leads" = some (leadsA br)
  told : m "told" = some told
  written : m "written" = some wr
  answers : m "answers" = some (.loc A)
  seenM : m "seen" = some (.loc S)
  found : m "found" = some (dueA found)
  st : ∃ push fr v, m "fresh" = some v ∧ FreshAt s fr v ∧ m "waiting" = some (.int (push.length : Nat)) ∧ push ++ fr = flat W Q ∧ AS s l lf ln cs push A ans S (seen.map AV.int)

/-- what one turn does -/
noncomputable def stepF (r : List Nat) (x y : Int) (found : Option (List Nat)) : Option (List Nat) := if found = none ∧ x ≠ y ∧ (x < 256 ∨ y < 256) then some r else found
noncomputable abbrev goes (r : List Nat) (x y : Int) (found : Option (List Nat)) (seen : List Int) : Prop := stepF r x y found = none ∧ 256 ≤ x ∧ 256 ≤ y ∧ (1000 * x + y) ∉ seen

noncomputable def ansIf1 : Stmt := stAt (whileBody ansInner) 6

theorem ans_take {br : Nat → List Int} {Sy : Int → Prop} {W : Int → Str} {told wr : AV} (H : WOk Sy W told wr) {n : Nat} {m : Fm} {σ : Sto} {l lf A S : Nat} {ln : Int} {cs : List Nat} {ans : List AV} {r : List Nat} {x y : Int} {Q : List Trip} {found : Option (List Nat)} {seen : List Int}
    (hx : Sy x) (hy : Sy y) (hb : (flat W ((r, x, y) :: Q)).length < 2 ^ 20) (q : QSt W told wr br l lf A S ln cs ans m σ ((r, x, y) :: Q) found seen) {X : Fl × Fm × Sto → Prop}
    (hP : ∀ m' σ' Lf, m' "lexer" = some (.loc l) → m' "leads" = some (leadsA br) → m' "told" = some told → m' "written" = some wr → m' "answers" = some (.loc A) → m' "seen" = some (.loc S) → m' "found" = some (dueA found) →
      m' "road" = some (.str (roadS r)) → m' "one" = some (.int x) → m' "other" = some (.int y) → m' "fresh" = some (.loc Lf) → m' "waiting" = some (.int ((flat W Q).length : Nat)) → σ'.get Lf = some (.list []) → Lf < σ'.nx → Lf ≠ l → Lf ≠ lf → Lf ≠ A → Lf ≠ S →
      AS σ' l lf ln cs (flat W Q) A ans S (seen.map AV.int) → Sat (exs cfgP (F (n + 1)) [ansIf1, ansIf2] scA m' σ') X) :
    Sat (exs cfgP (F (n + 1)) (whileBody ansInner) scA m σ) X := by
  obtain ⟨push, fr, v, h1, h2, h3, h4, a⟩ := q.st
  have hlen : (push ++ fr).length < 2 ^ 20 := by rw [h4]; exact hb
  rw [List.length_append] at hlen
  refine x_cons (by kernel_rfl) (ans_push a h2 hlen h1 q.lexer fun m1 σ1 f1 a1 g1 x1 => ?_)
  have e1 : m1 "fresh" = some v := (f1 _ (by decide)).trans h1
  have e2 : m1 "lexer" = some (.loc l) := (f1 _ (by decide)).trans q.lexer
  have e3 : m1 "waiting" = some (.int (push.length : Nat)) := (f1 _ (by decide)).trans h3
  have e4 : m1 "told" = some told := (f1 _ (by decide)).trans q.told
  have e5 : m1 "leads" = some (leadsA br) := (f1 _ (by decide)).trans q.leads
  have e6 : m1 "written" = some wr := (f1 _ (by decide)).trans q.written
  have e7 : m1 "answers" = some (.loc A) := (f1 _ (by decide)).trans q.answers
  have e8 : m1 "seen" = some (.loc S) := (f1 _ (by decide)).trans q.seenM
  have e9 : m1 "found" = some (dueA found) := (f1 _ (by decide)).trans q.found
  rw [h4] at a1
  have hfl : flat W ((r, x, y) :: Q) = .str (roadS r) :: .str (W x) :: .str (W y) :: flat W Q := rfl
  rw [hfl] at a1
  have hw : ((push.length : Nat) : Int) + ((fr.length : Nat) - 3) = (((flat W Q).length : Nat) : Int) := by
    have : push.length + fr.length = (flat W Q).length + 3 := by
      rw [← List.length_append, h4, hfl]; rfl
    first | lia | omega
  refine x_cons (by kernel_rfl) (x_aug (v := .int (push.length : Nat)) (Eq.trans (b := m1 "waiting") (by kernel_rfl) e3) (by kernel_rfl) (q_bin (q_call rfl (g := .bi .len) (by kernel_rfl) (q_cons (q_name (Eq.trans (b := m1 "fresh") (by kernel_rfl) e1) (q_nil (.eq (len_fresh g1) (.eq rfl (.eq rfl (.eq rfl ?_))))))))))
  simp only
  rw [hw]
  have hres : ∀ {s : Sto} {p ts : List AV} , AS s l lf ln cs p A ans S (seen.map AV.int) → resM s (.loc l) "get_token" = some (.lex "get_token") := fun h => res_get h.lex
  refine x_cons (by kernel_rfl) (x_assign rfl (by kernel_rfl) (q_meth (by decide) (q_name (Eq.trans (b := m1 "lexer") (by kernel_rfl) e2) (.eq (hres (ts := []) a1) (q_nil (.eq (get_pushed (n := n) a1.lex) ?_))))))
  have a2 := a1.setPush (ln' := ln) (push' := .str (W x) :: .str (W y) :: flat W Q)
  generalize σ1.upd l (.lexer ln lf (.str (W x) :: .str (W y) :: flat W Q)) = σ2 at *
  refine x_cons (by kernel_rfl) (x_assign rfl (by kernel_rfl) (q_call rfl (g := .glob "_law_symbol") (by kernel_rfl) (q_cons (q_meth (by decide) (q_name (Eq.trans (b := m1 "lexer") (by kernel_rfl) e2) (.eq (hres (ts := []) a2) (q_nil (.eq (get_pushed (n := n) a2.lex) (q_cons (q_name (Eq.trans (b := m1 "told") (by kernel_rfl) e4) (q_nil (.eq (H.sym (n := n) hx) ?_))))))))))))
  have a3 := (a2.setPush (ln' := ln) (push' := .str (W y) :: flat W Q)).upto
  simp only at a3 ⊢
  generalize (σ2.upd l (.lexer ln lf (.str (W y) :: flat W Q))).upto (σ2.upd l (.lexer ln lf (.str (W y) :: flat W Q))).nx = σ3 at *
  refine x_cons (by kernel_rfl) (x_assign rfl (by kernel_rfl) (q_call rfl (g := .glob "_law_symbol") (by kernel_rfl) (q_cons (q_meth (by decide) (q_name (Eq.trans (b := m1 "lexer") (by kernel_rfl) e2) (.eq (hres (ts := []) a3) (q_nil (.eq (get_pushed (n := n) a3.lex) (q_cons (q_name (Eq.trans (b := m1 "told") (by kernel_rfl) e4) (q_nil (.eq (H.sym (n := n) hy) ?_))))))))))))
  have a4 := (a3.setPush (ln' := ln) (push' := flat W Q)).upto
  simp only at a4 ⊢
  generalize (σ3.upd l (.lexer ln lf (flat W Q))).upto (σ3.upd l (.lexer ln lf (flat W Q))).nx = σ4 at *
  refine x_cons (by kernel_rfl) (x_assign rfl (by kernel_rfl) (.eq (a := (.loc σ4.nx, σ4.new (.list []))) (by kernel_rfl) ?_))
  have hne : ∀ {b : Nat}, b < σ4.nx → σ4.nx ≠ b := fun h => Nat.ne_of_gt h
  exact hP _ _ σ4.nx (Eq.trans (b := m1 "lexer") (by kernel_rfl) e2) (Eq.trans (b := m1 "leads") (by kernel_rfl) e5) (Eq.trans (b := m1 "told") (by kernel_rfl) e4) (Eq.trans (b := m1 "written") (by kernel_rfl) e6) (Eq.trans (b := m1 "answers") (by kernel_rfl) e7)
    (Eq.trans (b := m1 "seen") (by kernel_rfl) e8) (Eq.trans (b := m1 "found") (by kernel_rfl) e9) (by kernel_rfl) (by kernel_rfl) (by kernel_rfl) (by kernel_rfl) (by kernel_rfl) new_get (Nat.lt_succ_self _) (hne a4.l1) (hne a4.l2) (hne a4.l3) (hne a4.l4) a4.new
end Mine
namespace Mine
open PySem PyProof.Rows

theorem cmp_is {σ : Sto} {found : Option (List Nat)} : cmpA σ .Is (dueA found) .none = some found.isNone := by cases found <;> rfl
theorem cmp_ne {σ : Sto} {x y : Int} : cmpA σ .NotEq (.int x) (.int y) = some (decide (x ≠ y)) := by
  show ((eqA σ (.int x) (.int y)).bind fun b => some !b) = _
  show some (!(PyData.eqv (.int x) (.int y))) = _
  have : PyData.eqv (.int x) (.int y) = decide (x = y) := by
    simp only [PyData.eqv]
    by_cases h : x = y <;> simp [h]
  rw [this, decide_not]

theorem ans_if1 {n : Nat} {m : Fm} {σ : Sto} {r : List Nat} {x y : Int} {found : Option (List Nat)} (h1 : m "found" = some (dueA found)) (h2 : m "one" = some (.int x)) (h3 : m "other" = some (.int y)) (h4 : m "road" = some (.str (roadS r))) {P : Fl × Fm × Sto → Prop}
    (hP : ∀ m' σ', (∀ z : Str, z ≠ "found" → m' z = m z) → m' "found" = some (dueA (stepF r x y found)) → Keep σ.nx σ σ' → P (.next, m', σ')) : Sat (ex cfgP (F (n + 1)) ansIf1 scA m σ) P := by
  have no : stepF r x y found = found → ∀ σ', Keep σ.nx σ σ' → Sat (exs cfgP (F (n + 1)) [] scA m σ') P := fun e σ' k => x_nil (hP m σ' (fun _ _ => rfl) (by rw [e]; exact h1) k)
  have k1 : Keep σ.nx σ (σ.upto σ.nx) := Keep.upto (Nat.le_refl _)
  have k2 : Keep σ.nx σ ((σ.upto σ.nx).upto (σ.upto σ.nx).nx) := k1.trans (Keep.upto (Nat.le_refl _))
  have yes : stepF r x y found = some r → ∀ σ' b, Keep σ.nx σ σ' → b = ifBody ansIf1 → Sat (exs cfgP (F (n + 1)) b scA m σ') P := fun e σ' b k hb => by
    subst hb
    refine x_cons (by kernel_rfl) (x_assign rfl (by kernel_rfl) (q_name (Eq.trans (b := m "road") (by kernel_rfl) h4) (x_nil (hP _ σ' (fun z hz => ?_) ?_ k))))
    · show (m.set "found" _) z = _
      rw [Fm.set, if_neg hz]
    · rw [e]; kernel_rfl
  refine x_if (t_bool (t_and (t_cmp (q_name (Eq.trans (b := m "found") (by kernel_rfl) h1) (.eq rfl (.eq cmp_is ?_))))))
  cases hf : found with
  | some w =>
    rw [if_neg (by simp), if_neg (by simp)]
    exact no (by simp [stepF, hf]) _ Keep.refl
  | none =>
    rw [if_pos (by rfl)]
    refine t_and (t_cmp (q_name (Eq.trans (b := m "one") (by kernel_rfl) h2) (q_name (Eq.trans (b := m "other") (by kernel_rfl) h3) (.eq cmp_ne ?_))))
    by_cases hxy : x = y
    · rw [if_neg (by simp [hxy]), if_neg (by simp)]
      exact no (by simp [stepF, hxy]) _ Keep.refl
    · rw [if_pos (by simp [hxy])]
      refine t_and (t_bool (t_or (t_plain rfl (q_call rfl (g := .glob "ISTERMINAL") (by kernel_rfl) (q_cons (q_name (Eq.trans (b := m "one") (by kernel_rfl) h2) (q_nil (.eq call_isterm (.eq rfl ?_)))))))))
      by_cases hx : x < 256
      · rw [if_pos (by simpa using hx), if_pos (by rfl)]
        refine t_nil ?_
        rw [if_pos (by rfl)]
        exact yes (by simp [stepF, hf, hxy, hx]) _ _ k1 rfl
      · rw [if_neg (by simpa using hx)]
        refine t_or (t_plain rfl (q_call rfl (g := .glob "ISTERMINAL") (by kernel_rfl) (q_cons (q_name (Eq.trans (b := m "other") (by kernel_rfl) h3) (q_nil (.eq call_isterm (.eq rfl ?_)))))))
        by_cases hy : y < 256
        · rw [if_pos (by simpa using hy), if_pos (by rfl)]
          refine t_nil ?_
          rw [if_pos (by rfl)]
          exact yes (by simp [stepF, hf, hxy, hy]) _ _ k2 rfl
        · rw [if_neg (by simpa using hy)]
          refine t_nil ?_
          rw [if_neg (by simp), if_neg (by simp)]
          exact no (by simp [stepF, hxy, hx, hy, hf]) _ k2
end Mine
namespace Mine
open PySem PyProof.Rows

theorem mem_ints {σ : Sto} {S : Nat} {z : Int} {seen : List Int} (h : σ.get S = some (.list (seen.map AV.int))) : memA σ (.int z) (.loc S) = some (decide (z ∈ seen)) := by
  show ((lst? σ (.loc S)).bind fun xs => (toPys 7 xs).bind fun ds => (toPy 8 (.int z)).map fun d => ds.any fun y => PyData.eqv y d) = _
  simp only [lst?, h, Option.bind_some, toPys_ints]
  show some ((seen.map PyData.int).any fun y => PyData.eqv y (.int z)) = _
  congr 1
  rw [List.any_map, eq_comm, Bool.eq_iff_iff]
  simp [PyData.eqv]

noncomputable abbrev goes' (x y : Int) (f : Option (List Nat)) (seen : List Int) : Prop := f = none ∧ 256 ≤ x ∧ 256 ≤ y ∧ (1000 * x + y) ∉ seen

theorem ans_if2 {br : Nat → List Int} (G : GOk br) {Sy : Int → Prop} {W : Int → Str} {told wr : AV} (H : WOk Sy W told wr) (hSy : ∀ k, k < 4 → ∀ s ∈ br k, Sy s ∧ s ≠ 0) {n : Nat} {m : Fm} {σ : Sto} {l lf A S Lf : Nat} {ln : Int} {cs : List Nat} {push ans : List AV} {seen : List Int}
    {r : List Nat} (hr : r.length ≤ 1000) {x y : Int} {f : Option (List Nat)} (hx : 256 ≤ x → ∃ j : Nat, j < 4 ∧ x = 256 + (j : Int)) (hy : 256 ≤ y → ∃ j : Nat, j < 4 ∧ y = 256 + (j : Int)) (hsl : seen.length < 1000)
    (a : AS σ l lf ln cs push A ans S (seen.map AV.int)) (hLf : σ.get Lf = some (.list [])) (hlt : Lf < σ.nx) (n1 : Lf ≠ l) (n2 : Lf ≠ lf) (n3 : Lf ≠ A) (n4 : Lf ≠ S)
    (h1 : m "found" = some (dueA f)) (h2 : m "one" = some (.int x)) (h3 : m "other" = some (.int y)) (h4 : m "road" = some (.str (roadS r))) (h5 : m "leads" = some (leadsA br)) (h6 : m "written" = some wr) (h7 : m "seen" = some (.loc S)) (h8 : m "fresh" = some (.loc Lf))
    {P : Fl × Fm × Sto → Prop}
    (hno : ¬ goes' x y f seen → ∀ σ', Keep σ.nx σ σ' → P (.next, m, σ'))
    (hyes : goes' x y f seen → ∀ m' σ', (∀ z : Str, z ≠ "found" → z ≠ "here" → z ≠ "there" → z ≠ "k" → z ≠ "fresh" → m' z = m z) → m' "fresh" = some (.loc Lf) →
      m' "found" = some (dueA (if (br (x - 256).toNat).length = (br (y - 256).toNat).length then none else some r)) → σ'.get Lf = some (.list (flat W (newQ r (br (x - 256).toNat) (br (y - 256).toNat)))) →
      AS σ' l lf ln cs push A ans S ((seen ++ [1000 * x + y]).map AV.int) → σ.nx ≤ σ'.nx → P (.next, m', σ')) : Sat (ex cfgP (F (n + 1)) ansIf2 scA m σ) P := by
  have no : ¬ goes' x y f seen → ∀ σ', Keep σ.nx σ σ' → Sat (exs cfgP (F (n + 1)) [] scA m σ') P := fun e σ' k => x_nil (hno e σ' k)
  have k1 : Keep σ.nx σ (σ.upto σ.nx) := Keep.upto (Nat.le_refl _)
  have k2 : Keep σ.nx σ ((σ.upto σ.nx).upto (σ.upto σ.nx).nx) := k1.trans (Keep.upto (Nat.le_refl _))
  refine x_if (t_bool (t_and (t_cmp (q_name (Eq.trans (b := m "found") (by kernel_rfl) h1) (.eq rfl (.eq cmp_is ?_))))))
  cases hf : f with
  | some w =>
    rw [if_neg (by simp), if_neg (by simp)]
    exact no (by simp [goes', hf]) _ Keep.refl
  | none =>
  rw [if_pos (by rfl)]
  refine t_and (t_plain rfl (q_call rfl (g := .glob "ISNONTERMINAL") (by kernel_rfl) (q_cons (q_name (Eq.trans (b := m "one") (by kernel_rfl) h2) (q_nil (.eq call_isnon (.eq rfl ?_)))))))
  by_cases hx6 : 256 ≤ x
  rotate_left
  · rw [if_neg (by simpa using hx6), if_neg (by simp)]
    exact no (by simp [goes', hx6]) _ k1
  rw [if_pos (by simpa using hx6)]
  refine t_and (t_plain rfl (q_call rfl (g := .glob "ISNONTERMINAL") (by kernel_rfl) (q_cons (q_name (Eq.trans (b := m "other") (by kernel_rfl) h3) (q_nil (.eq call_isnon (.eq rfl ?_)))))))
  by_cases hy6 : 256 ≤ y
  rotate_left
  · rw [if_neg (by simpa using hy6), if_neg (by simp)]
    exact no (by simp [goes', hy6]) _ k2
  rw [if_pos (by simpa using hy6)]
  obtain ⟨jx, hjx, rfl⟩ := hx hx6
  obtain ⟨jy, hjy, rfl⟩ := hy hy6
  have a2 := a.keep k2
  have g2 := k2.get hlt hLf
  have lt2 : Lf < ((σ.upto σ.nx).upto (σ.upto σ.nx).nx).nx := Nat.lt_of_lt_of_le hlt k2.2
  have nx2 := k2.2
  simp only at ⊢
  generalize ((σ.upto σ.nx).upto (σ.upto σ.nx).nx) = σ2 at *
  generalize hzz : 1000 * (256 + (jx : Int)) + (256 + (jy : Int)) = zz at *
  have hmul : ∀ {p : Pos} {σ' : Sto}, binA cfgP p .Mult (.int 1000) (.int (256 + (jx : Int))) σ' = some (.int (1000 * (256 + (jx : Int))), σ') := fun {p σ'} => by
    show (if (1000 : Int).natAbs < 2 ^ 31 ∧ (256 + (jx : Int)).natAbs < 2 ^ 31 then _ else none) = _
    rw [if_pos ⟨by decide, by first | lia | omega⟩]
  have hsum : ∀ {p : Pos} {σ' : Sto}, binA cfgP p .Add (.int (1000 * (256 + (jx : Int)))) (.int (256 + (jy : Int))) σ' = some (.int zz, σ') := fun {p σ'} => by rw [← hzz]; rfl
  have hni : cmpA σ2 .NotIn (.int zz) (.loc S) = some (!decide (zz ∈ seen)) := by
    show ((memA σ2 (.int zz) (.loc S)).bind fun b => some !b) = _
    rw [mem_ints a2.seenF]; rfl
  refine t_and (t_cmp (q_bin (q_bin (.eq rfl (q_name (Eq.trans (b := m "one") (by kernel_rfl) h2) (.eq hmul (q_name (Eq.trans (b := m "other") (by kernel_rfl) h3) (.eq hsum (q_name (Eq.trans (b := m "seen") (by kernel_rfl) h7) (.eq hni ?_))))))))))
  by_cases hin : zz ∈ seen
  · rw [if_neg (by simp [hin]), if_neg (by simp)]
    exact no (by simp [goes', hzz, hin]) _ k2
  rw [if_pos (by simp [hin])]
  refine t_nil ?_
  rw [if_pos (by rfl)]
  have hg : goes' (256 + (jx : Int)) (256 + (jy : Int)) f seen := ⟨hf, hx6, hy6, by rw [hzz]; exact hin⟩
  have jx2 : (256 + (jx : Int) - 256).toNat = jx := nm_ix
  have jy2 : (256 + (jy : Int) - 256).toNat = jy := nm_ix
  have hyes := hyes (hf ▸ hg)
  rw [jx2, jy2] at hyes
  have hrun : ∀ {p : Pos} {v : AV}, runM cfgP p (F (n + 1)) .append (.loc S) [v] σ2 = some (.none, σ2.upd S (.list (seen.map AV.int ++ [v]))) := fun {p v} => by
    show (match σ2.get S with
      | some (.list xs) => if xs.length < 2 ^ 20 then some (AV.none, σ2.upd S (.list (xs ++ [v]))) else none
      | _ => none) = _
    rw [a2.seenF]
    show (if (seen.map AV.int).length < 2 ^ 20 then _ else none) = _
    rw [if_pos (by simp; first | lia | omega)]
  refine x_cons (by kernel_rfl) (x_expr rfl (q_meth (by decide) (q_name (Eq.trans (b := m "seen") (by kernel_rfl) h7) (.eq (res_app a2.seenF) (q_cons (q_bin (q_bin (.eq rfl (q_name (Eq.trans (b := m "one") (by kernel_rfl) h2) (.eq hmul (q_name (Eq.trans (b := m "other") (by kernel_rfl) h3) (.eq hsum (q_nil (.eq hrun ?_))))))))))))))
  have a3 := a2.setSeen (seen' := seen.map AV.int ++ [.int zz])
  have g3 : (σ2.upd S (.list (seen.map AV.int ++ [.int zz]))).get Lf = some (.list []) := (upd_ne n4).trans g2
  have lt3 : Lf < (σ2.upd S (.list (seen.map AV.int ++ [.int zz]))).nx := lt2
  have nx3 : σ.nx ≤ (σ2.upd S (.list (seen.map AV.int ++ [.int zz]))).nx := nx2
  simp only at ⊢
  generalize σ2.upd S (.list (seen.map AV.int ++ [.int zz])) = σ3 at *
  refine x_cons (by kernel_rfl) (x_assignT (by kernel_rfl) (q_tuple (by decide) (q_cons (q_sub rfl (q_name (Eq.trans (b := m "leads") (by kernel_rfl) h5) (q_name (Eq.trans (b := m "one") (by kernel_rfl) h2) (.eq (getA_leads hjx) (q_cons (q_sub rfl (q_name (Eq.trans (b := m "leads") (by kernel_rfl) h5) (q_name (Eq.trans (b := m "other") (by kernel_rfl) h3) (.eq (getA_leads hjy) (q_cons (.eq rfl (q_nil (.eq rfl ?_))))))))))))))))
  refine x_cons (by kernel_rfl) (ans_grow (n := n) G H hSy hjx hjy hr a3 g3 lt3 n1 n2 n3 n4 (by kernel_rfl) (by kernel_rfl) (by kernel_rfl) (Eq.trans (b := m "fresh") (by kernel_rfl) h8) (Eq.trans (b := m "road") (by kernel_rfl) h4) (Eq.trans (b := m "written") (by kernel_rfl) h6)
    fun m4 σ4 f4 r4 q4 a4 g4 nx4 => ?_)
  have e1 : m4 "here" = some (ruleA br jx) := (f4 _ (by decide) (by decide)).trans (by kernel_rfl)
  have e2 : m4 "there" = some (ruleA br jy) := (f4 _ (by decide) (by decide)).trans (by kernel_rfl)
  have e3 : m4 "road" = some (.str (roadS r)) := (f4 _ (by decide) (by decide)).trans (Eq.trans (b := m "road") (by kernel_rfl) h4)
  have e4 : m4 "found" = some (dueA none) := (f4 _ (by decide) (by decide)).trans (Eq.trans (b := m "found") (by kernel_rfl) (hf ▸ h1))
  have e5 : ∀ z : Str, z ≠ "found" → z ≠ "here" → z ≠ "there" → z ≠ "k" → z ≠ "fresh" → m4 z = m z := fun z z1 z2 z3 z4 z5 => by
    rw [f4 z z4 z5]
    show (((m.set "here" _).set "there" _).set "k" _) z = _
    rw [Fm.set, if_neg z4, Fm.set, if_neg z3, Fm.set, if_neg z2]
  have heq : ∀ x : Int, PyData.eqv (.int x) (.int 0) = (x == 0) := fun x => by simp [PyData.eqv]
  have lt4 : Lf < σ4.nx := Nat.lt_of_lt_of_le lt3 nx4
  have nx5 : σ.nx ≤ σ4.nx := Nat.le_trans nx3 nx4
  have k5 : Keep σ4.nx σ4 ((σ4.upto σ4.nx).upto (σ4.upto σ4.nx).nx) := (Keep.upto (Nat.le_refl _)).trans (Keep.upto (Nat.le_refl _))
  have hend : ∀ {b : List Int} {i : Nat}, i ≤ b.length → (∀ s ∈ b, s ≠ 0) → ((b.getD i 0) == 0) = decide (i = b.length) := fun {b i} hi h0 => by
    by_cases h : i < b.length
    · have : b.getD i 0 ∈ b := by simp [List.getD, List.getElem?_eq_getElem h]
      rw [beq_eq_false_iff_ne.mpr (h0 _ this), decide_eq_false (by first | lia | omega)]
    · have : i = b.length := by first | lia | omega
      subst this
      simp [List.getD]
  refine x_cons (by kernel_rfl) (x_if (t_cmp (q_call rfl (g := .glob "ISEOF") (by kernel_rfl) (q_cons (q_sub rfl (q_name (Eq.trans (b := m4 "here") (by kernel_rfl) e1) (q_name (Eq.trans (b := m4 "k") (by kernel_rfl) q4) (.eq (rule_get (Nat.min_le_left _ _)) (q_nil (.eq call_iseof ?_))))))))))
  refine q_call rfl (g := .glob "ISEOF") (by kernel_rfl) (q_cons (q_sub rfl (q_name (Eq.trans (b := m4 "there") (by kernel_rfl) e2) (q_name (Eq.trans (b := m4 "k") (by kernel_rfl) q4) (.eq (rule_get (Nat.min_le_right _ _)) (q_nil (.eq call_iseof ?_)))))))
  simp only [heq]
  rw [hend (Nat.min_le_left _ _) fun s hs => (hSy jx hjx s hs).2, hend (Nat.min_le_right _ _) fun s hs => (hSy jy hjy s hs).2]
  have a5 := a4.keep k5
  have g5 := k5.get lt4 g4
  have nx6 := k5.2
  generalize ((σ4.upto σ4.nx).upto (σ4.upto σ4.nx).nx) = σ5 at *
  have hmap : seen.map AV.int ++ [AV.int zz] = (seen ++ [zz]).map AV.int := by simp
  rw [hmap] at a5
  have hbl : (decide (min (br jx).length (br jy).length = (br jx).length) == decide (min (br jx).length (br jy).length = (br jy).length)) = decide ((br jx).length = (br jy).length) := by
    by_cases h : (br jx).length = (br jy).length
    · simp [h]
    · rw [decide_eq_false h]
      by_cases h2 : (br jx).length < (br jy).length
      · rw [decide_eq_true (by first | lia | omega), decide_eq_false (by first | lia | omega)]; rfl
      · rw [decide_eq_false (by first | lia | omega), decide_eq_true (by first | lia | omega)]; rfl
  refine .eq (a := !decide ((br jx).length = (br jy).length)) ?_ ?_
  · show ((some (_ == _)).bind fun b => some !b) = _
    rw [hbl]; rfl
  by_cases hl : (br jx).length = (br jy).length
  · rw [if_neg (by simp [hl])]
    refine x_nil (x_nil (hyes m4 σ5 e5 r4 ?_ g5 a5 (Nat.le_trans nx5 nx6)))
    rw [if_pos hl]; exact e4
  · rw [if_pos (by simp [hl])]
    refine x_cons (by kernel_rfl) (x_assign rfl (by kernel_rfl) (q_name (Eq.trans (b := m4 "road") (by kernel_rfl) e3) (x_nil (x_nil (hyes (m4.set "found" (.str (roadS r))) σ5 (fun z z1 z2 z3 z4 z5 => ?_) ?_ ?_ g5 a5 (Nat.le_trans nx5 nx6))))))
    · rw [Fm.set, if_neg z1]; exact e5 z z1 z2 z3 z4 z5
    · exact Eq.trans (b := m4 "fresh") (by kernel_rfl) r4
    · rw [if_neg hl]; kernel_rfl
end Mine
namespace Mine
open PySem PyProof.Rows

/-- the queue, what is found, what was seen, after a turn -/
noncomputable def turnQ (br : Nat → List Int) (r : List Nat) (x y : Int) (found : Option (List Nat)) (seen : List Int) : List Trip :=
  if goes' x y (stepF r x y found) seen then newQ r (br (x - 256).toNat) (br (y - 256).toNat) else []
noncomputable def turnF (br : Nat → List Int) (r : List Nat) (x y : Int) (found : Option (List Nat)) (seen : List Int) : Option (List Nat) :=
  if goes' x y (stepF r x y found) seen then (if (br (x - 256).toNat).length = (br (y - 256).toNat).length then none else some r) else stepF r x y found
noncomputable def turnS (r : List Nat) (x y : Int) (found : Option (List Nat)) (seen : List Int) : List Int :=
  if goes' x y (stepF r x y found) seen then seen ++ [1000 * x + y] else seen

theorem flat_append {W : Int → Str} {Q R : List Trip} : flat W (Q ++ R) = flat W Q ++ flat W R := by simp [flat]

theorem ans_turn {br : Nat → List Int} (G : GOk br) {Sy : Int → Prop} {W : Int → Str} {told wr : AV} (H : WOk Sy W told wr) (hSy : ∀ k, k < 4 → ∀ s ∈ br k, Sy s ∧ s ≠ 0) (hNt : ∀ x, Sy x → 256 ≤ x → ∃ j : Nat, j < 4 ∧ x = 256 + (j : Int)) {n : Nat} {m : Fm} {σ : Sto} {l lf A S : Nat} {ln : Int} {cs : List Nat} {ans : List AV}
    {r : List Nat} {x y : Int} {Q : List Trip} {found : Option (List Nat)} {seen : List Int} (hx : Sy x) (hy : Sy y) (hr : r.length ≤ 1000) (hsl : seen.length < 1000) (hb : (flat W ((r, x, y) :: Q)).length < 2 ^ 20) (q : QSt W told wr br l lf A S ln cs ans m σ ((r, x, y) :: Q) found seen) {X : Fl × Fm × Sto → Prop}
    (hP : ∀ m' σ', QSt W told wr br l lf A S ln cs ans m' σ' (Q ++ turnQ br r x y found seen) (turnF br r x y found seen) (turnS r x y found seen) → X (.next, m', σ')) : Sat (exs cfgP (F (n + 1)) (whileBody ansInner) scA m σ) X := by
  refine ans_take H hx hy hb q fun m1 σ1 Lf b1 b2 b3 b4 b5 b6 b7 b8 b9 b10 b11 b12 g1 lt1 n1 n2 n3 n4 a1 => ?_
  refine x_cons (by kernel_rfl) (ans_if1 b7 b9 b10 b8 fun m2 σ2 f2 c2 k2 => ?_)
  have a2 := a1.keep k2
  have g2 := k2.get lt1 g1
  have lt2 := Nat.lt_of_lt_of_le lt1 k2.2
  refine x_cons (by kernel_rfl) (ans_if2 (n := n) G H hSy hr (fun h => hNt x hx h) (fun h => hNt y hy h) hsl a2 g2 lt2 n1 n2 n3 n4 c2 ((f2 _ (by decide)).trans b9) ((f2 _ (by decide)).trans b10) ((f2 _ (by decide)).trans b8) ((f2 _ (by decide)).trans b2) ((f2 _ (by decide)).trans b4) ((f2 _ (by decide)).trans b6) ((f2 _ (by decide)).trans b11)
    (fun hg σ3 k3 => x_nil (hP m2 σ3 ?_)) fun hg m3 σ3 f3 r3 c3 g3 a3 nx3 => x_nil (hP m3 σ3 ?_))
  · rw [turnQ, if_neg hg, turnF, if_neg hg, turnS, if_neg hg, List.append_nil]
    exact ⟨(f2 _ (by decide)).trans b1, (f2 _ (by decide)).trans b2, (f2 _ (by decide)).trans b3, (f2 _ (by decide)).trans b4, (f2 _ (by decide)).trans b5, (f2 _ (by decide)).trans b6, c2,
      flat W Q, [], .loc Lf, (f2 _ (by decide)).trans b11, .loc (k3.get lt2 g2) (Nat.lt_of_lt_of_le lt2 k3.2), (f2 _ (by decide)).trans b12, List.append_nil _, a2.keep k3⟩
  · rw [turnQ, if_pos hg, turnF, if_pos hg, turnS, if_pos hg]
    have ff : ∀ z : Str, z ≠ "found" → z ≠ "here" → z ≠ "there" → z ≠ "k" → z ≠ "fresh" → m3 z = m1 z := fun z z1 z2 z3 z4 z5 => (f3 z z1 z2 z3 z4 z5).trans (f2 z z1)
    refine ⟨(ff _ (by decide) (by decide) (by decide) (by decide) (by decide)).trans b1, (ff _ (by decide) (by decide) (by decide) (by decide) (by decide)).trans b2, (ff _ (by decide) (by decide) (by decide) (by decide) (by decide)).trans b3, (ff _ (by decide) (by decide) (by decide) (by decide) (by decide)).trans b4,
      (ff _ (by decide) (by decide) (by decide) (by decide) (by decide)).trans b5, (ff _ (by decide) (by decide) (by decide) (by decide) (by decide)).trans b6, c3, flat W Q, flat W (newQ r (br (x - 256).toNat) (br (y - 256).toNat)), .loc Lf, r3, .loc g3 (Nat.lt_of_lt_of_le lt2 nx3), (ff _ (by decide) (by decide) (by decide) (by decide) (by decide)).trans b12, flat_append.symm, a3⟩
end Mine
namespace Mine
open PySem PyProof.Rows

noncomputable def StrsOk (fr : List AV) : Prop := ∀ v ∈ fr, ∃ s, v = .str s ∧ PyData.strOk s = true
theorem toPys_strs {k : Nat} {fr : List AV} (h : StrsOk fr) : ∃ ds, toPys k fr = some ds ∧ ds.length = fr.length := by
  induction fr with
  | nil => exact ⟨[], rfl, rfl⟩
  | cons v fr ih =>
    obtain ⟨ds, h1, h2⟩ := ih fun w hw => h w (.tail _ hw)
    obtain ⟨s, rfl, hs⟩ := h v (.head _)
    refine ⟨.str s :: ds, ?_, congrArg (· + 1) h2⟩
    show ((toPy k (.str s)).bind fun d => (toPys k fr).bind fun ds => some (d :: ds)) = _
    rw [h1, show toPy k (.str s) = some (.str s) by cases k <;> exact if_pos hs]; rfl
theorem cmp_fresh {σ : Sto} {fr : List AV} {v : AV} (h : FreshAt σ fr v) (hs : StrsOk fr) : cmpA σ .NotEq v (.list []) = some (!fr.isEmpty) := by
  have e : eqA σ v (.list []) = (toPy 8 (shallow σ v)).bind fun a => (toPy 8 (shallow σ (.list []))).bind fun b => some (PyData.eqv a b) := by cases h <;> rfl
  show ((eqA σ v (.list [])).bind fun b => some !b) = _
  rw [e, h.shal]
  obtain ⟨ds, h1, h2⟩ := toPys_strs (k := 7) hs
  have : toPy 8 (.list fr) = some (.list ds) := by
    show ((toPys 7 fr).bind fun ds => some (PyData.list ds)) = _
    rw [h1]; rfl
  rw [this]
  show some (!(PyData.eqv (.list ds) (.list []))) = _
  cases fr with
  | nil =>
    have : ds = [] := List.length_eq_zero_iff.mp h2
    subst this; rfl
  | cons v fr =>
    cases ds with
    | nil => simp at h2
    | cons d ds => rfl

theorem ans_inner {br : Nat → List Int} (G : GOk br) {Sy : Int → Prop} {W : Int → Str} {told wr : AV} (H : WOk Sy W told wr) (hSy : ∀ k, k < 4 → ∀ s ∈ br k, Sy s ∧ s ≠ 0) (hNt : ∀ x, Sy x → 256 ≤ x → ∃ j : Nat, j < 4 ∧ x = 256 + (j : Int)) {n : Nat} {m : Fm} {σ : Sto} {l lf A S : Nat} {ln : Int} {cs : List Nat} {ans : List AV}
    {Q : List Trip} {found : Option (List Nat)} {seen : List Int} {J : List Trip → Option (List Nat) → List Int → Prop} {μ : List Trip → List Int → Nat} (hJ0 : J Q found seen) (hμ : μ Q seen < 100000) (hstr : ∀ Q f s, J Q f s → StrsOk (flat W Q))
    (hJ : ∀ r x y Q f s, J ((r, x, y) :: Q) f s → Sy x ∧ Sy y ∧ r.length ≤ 1000 ∧ s.length < 1000 ∧ (flat W ((r, x, y) :: Q)).length < 2 ^ 20 ∧ J (Q ++ turnQ br r x y f s) (turnF br r x y f s) (turnS r x y f s) ∧ μ (Q ++ turnQ br r x y f s) (turnS r x y f s) < μ ((r, x, y) :: Q) s)
    (q : QSt W told wr br l lf A S ln cs ans m σ Q found seen) {X : Fl × Fm × Sto → Prop}
    (hP : ∀ m' σ' f s, QSt W told wr br l lf A S ln cs ans m' σ' [] f s → J [] f s → X (.next, m', σ')) : Sat (ex cfgP (F (n + 1)) ansInner scA m σ) X := by
  refine x_while (n := μ Q seen) (I := fun k s => ∃ Q f sn, QSt W told wr br l lf A S ln cs ans s.1 s.2 Q f sn ∧ J Q f sn ∧ μ Q sn = k) hμ ⟨Q, found, seen, q, hJ0, rfl⟩ (fun k s h => ?_)
  obtain ⟨m2, σ2⟩ := s
  obtain ⟨Q2, f2, s2, q2, j2, rfl⟩ := h
  simp only at q2
  obtain ⟨push, fr, v, h1, h2, h3, h4, a⟩ := q2.st
  have hs := hstr _ _ _ j2
  have hsf : StrsOk fr := fun w hw => hs w (by rw [← h4]; exact List.mem_append_right _ hw)
  have go : ∀ σ3, σ3 = σ2 → Q2 ≠ [] → Sat (exs cfgP (F (n + 1)) (whileBody ansInner) scA m2 σ3) fun y => match y.1 with
      | .next | .cont => ∃ k, k < μ Q2 s2 ∧ ∃ Q f sn, QSt W told wr br l lf A S ln cs ans y.2.1 y.2.2 Q f sn ∧ J Q f sn ∧ μ Q sn = k
      | .brk => X (.next, y.2)
      | .ret v => X (.ret v, y.2) := fun σ3 e hne => by
    subst e
    cases Q2 with
    | nil => exact absurd rfl hne
    | cons t Q2 =>
      obtain ⟨r, x, y⟩ := t
      obtain ⟨p1, p2, p3, p4, p5, p6, p7⟩ := hJ _ _ _ _ _ _ j2
      exact ans_turn G H hSy hNt p1 p2 p3 p4 p5 q2 fun m3 σ3 q3 => ⟨_, p7, _, _, _, q3, p6, rfl⟩
  refine t_bool (t_or (t_cmp (q_name (Eq.trans (b := m2 "fresh") (by kernel_rfl) h1) (.eq (a := (.list [], σ2)) (by kernel_rfl) (.eq (cmp_fresh h2 hsf) ?_)))))
  cases hfr : fr with
  | cons w fr' =>
    rw [if_pos (by rfl), if_pos (by rfl)]
    refine go _ rfl fun e => ?_
    rw [e, hfr] at h4
    simp [flat] at h4
  | nil =>
    rw [if_neg (by simp)]
    refine t_or (t_cmp (q_name (Eq.trans (b := m2 "waiting") (by kernel_rfl) h3) (.eq rfl (.eq rfl ?_))))
    rw [hfr, List.append_nil] at h4
    cases hQ : Q2 with
    | nil =>
      subst hQ
      rw [show push = [] from h4]
      rw [if_neg (by simp)]
      refine t_nil ?_
      rw [if_neg (by simp)]
      exact hP _ _ _ _ q2 j2
    | cons t Q3 =>
      have hpl : 0 < push.length := by rw [h4, hQ]; simp [flat, tw]
      rw [if_pos (by simp; first | lia | omega), if_pos (by rfl)]
      subst hQ
      exact go _ rfl (by simp)
end Mine
namespace Mine
open PySem PyProof.Rows

noncomputable def Good (cs : List Nat) : Prop := (∀ x ∈ cs, x < 0x110000) ∧ cs.length < 2 ^ 20
/-- the text reads as the words of these symbols -/
noncomputable def Txt (W : Int → Str) : List Nat → List Int → Prop
  | cs, [] => cs = []
  | cs, s :: ss => Good cs ∧ ∃ cs' k, token cs 0 = ((W s).cps.toList, cs', k) ∧ k + cs'.count 10 = cs.count 10 ∧ Txt W cs' ss

theorem get_sym {W : Int → Str} {n l lf : Nat} {ln : Int} {cs : List Nat} {s : Int} {ss : List Int} {σ : Sto} (h1 : σ.get l = some (.lexer ln lf [])) (h2 : σ.get lf = some (.list (chars cs))) (ht : Txt W cs (s :: ss)) :
    ∃ cs' ln', F (n + 1) "get_token" [.loc l] σ = some (.str (W s), lexAt σ l lf ln' cs') ∧ Txt W cs' ss ∧ ln' + (cs'.count 10 : Nat) = ln + (cs.count 10 : Nat) := by
  obtain ⟨hg, cs', k, e, hk, ht⟩ := ht
  refine ⟨cs', ln + (k : Nat), ?_, ht, by first | lia | omega⟩
  rw [get_word h1 h2 hg.1 hg.2 e]
theorem get_end {W : Int → Str} {n l lf : Nat} {ln : Int} {cs : List Nat} {σ : Sto} (h0 : W 0 = ⟨#[]⟩) (h1 : σ.get l = some (.lexer ln lf [])) (h2 : σ.get lf = some (.list (chars cs))) (ht : Txt W cs []) :
    F (n + 1) "get_token" [.loc l] σ = some (.str (W 0), lexAt σ l lf ln []) := by
  rw [show cs = [] from ht] at h2
  rw [get_word (cs := []) (tok := []) (rest := []) (k := 0) h1 h2 (by simp) (by decide) rfl, h0]
  simp

/-- the next word, or the empty one at the end -/
theorem get_any {W : Int → Str} {n l lf : Nat} {ln : Int} {cs : List Nat} {ss : List Int} {σ : Sto} (h0 : W 0 = ⟨#[]⟩) (h1 : σ.get l = some (.lexer ln lf [])) (h2 : σ.get lf = some (.list (chars cs))) (ht : Txt W cs ss) :
    ∃ cs' ln', F (n + 1) "get_token" [.loc l] σ = some (.str (W (ss.headD 0)), lexAt σ l lf ln' cs') ∧ Txt W cs' ss.tail ∧ ln' + (cs'.count 10 : Nat) = ln + (cs.count 10 : Nat) := by
  cases ss with
  | nil =>
    refine ⟨[], ln, get_end h0 h1 h2 ht, rfl, ?_⟩
    rw [show cs = [] from ht]
  | cons s ss => exact get_sym h1 h2 ht

noncomputable def qsyms (qs : List (Nat × Nat)) : List Int := qs.flatMap fun q => [256 + (q.1 : Int), 256 + (q.2 : Int)]

/-- what stands between two questions -/
structure OSt (W : Int → Str) (told wr : AV) (br : Nat → List Int) (res : Nat × Nat → Option (List Nat)) (l lf A : Nat) (tot : Int) (done rest : List (Nat × Nat)) (m : Fm) (s : Sto) : Prop where
  lexer : m "lexer" = some (.loc l)
  leads : m "leads" = some (leadsA br)
  told : m "told" = some told
  written : m "written" = some wr
  answers : m "answers" = some (.loc A)
  start : m "start" = some (.str (W ((qsyms rest).headD 0)))
  st : ∃ ln cs, s.get l = some (.lexer ln lf []) ∧ s.get lf = some (.list (chars cs)) ∧ s.get A = some (.list (done.map fun q => dueA (res q))) ∧ Txt W cs (qsyms rest).tail ∧ ln + (cs.count 10 : Nat) = tot ∧ l < s.nx ∧ lf < s.nx ∧ A < s.nx ∧ lf ≠ A ∧ ∃ b, s.get 0 = some (.tab b)
end Mine
namespace Mine
open PySem PyProof.Rows

theorem ans_body {br : Nat → List Int} (G : GOk br) {Sy : Int → Prop} {W : Int → Str} {told wr : AV} (H : WOk Sy W told wr) (hSy : ∀ k, k < 4 → ∀ s ∈ br k, Sy s ∧ s ≠ 0) (hNt : ∀ x, Sy x → 256 ≤ x → ∃ j : Nat, j < 4 ∧ x = 256 + (j : Int)) (h0 : W 0 = ⟨#[]⟩)
    {res : Nat × Nat → Option (List Nat)} {J : Nat × Nat → List Trip → Option (List Nat) → List Int → Prop} {μ : List Trip → List Int → Nat} {n : Nat} {m : Fm} {σ : Sto} {l lf A : Nat} {tot : Int} {done rs : List (Nat × Nat)} {q : Nat × Nat}
    (hJ0 : J q [([], 256 + (q.1 : Int), 256 + (q.2 : Int))] none []) (hμ : μ [([], 256 + (q.1 : Int), 256 + (q.2 : Int))] [] < 100000) (hstr : ∀ Q f s, J q Q f s → StrsOk (flat W Q)) (hd : done.length < 1000)
    (hJ : ∀ r x y Q f s, J q ((r, x, y) :: Q) f s → Sy x ∧ Sy y ∧ r.length ≤ 1000 ∧ s.length < 1000 ∧ (flat W ((r, x, y) :: Q)).length < 2 ^ 20 ∧ J q (Q ++ turnQ br r x y f s) (turnF br r x y f s) (turnS r x y f s) ∧ μ (Q ++ turnQ br r x y f s) (turnS r x y f s) < μ ((r, x, y) :: Q) s)
    (hfin : ∀ f s, J q [] f s → f = res q) (o : OSt W told wr br res l lf A tot done (q :: rs) m σ) {X : Fl × Fm × Sto → Prop} (hP : ∀ m' σ', OSt W told wr br res l lf A tot (done ++ [q]) rs m' σ' → X (.next, m', σ')) :
    Sat (exs cfgP (F (n + 1)) (whileBody ansOuter) scA m σ) X := by
  obtain ⟨ln, cs, g1, g2, g3, ht, htot, l1, l2, l3, ne, tb, etb⟩ := o.st
  obtain ⟨cs2, ln2, e2, t2, c2⟩ := get_any (n := n) h0 g1 g2 ht
  have hres : ∀ {s : Sto} {ln : Int} {p : List AV}, s.get l = some (.lexer ln lf p) → resM s (.loc l) "get_token" = some (.lex "get_token") := fun h => res_get h
  refine x_cons (by kernel_rfl) (x_assignT (by kernel_rfl) (q_tuple (by decide) (q_cons (q_list (by decide) (q_cons (.eq rfl (q_cons (q_name (Eq.trans (b := m "start") (by kernel_rfl) o.start) (q_cons (q_meth (by decide) (q_name (Eq.trans (b := m "lexer") (by kernel_rfl) o.lexer) (.eq (hres g1) (q_nil (.eq e2 (q_nil ?_)))))))))))))))
  have hll : lf ≠ l := by rintro rfl; rw [g1] at g2; cases g2
  have hAl : A ≠ l := by rintro rfl; rw [g1] at g3; cases g3
  have p1 : (lexAt σ l lf ln2 cs2).get l = some (.lexer ln2 lf []) := lexAt_get
  have p2 : (lexAt σ l lf ln2 cs2).get lf = some (.list (chars cs2)) := lexAt_left hll
  have p3 : (lexAt σ l lf ln2 cs2).get A = some (.list (done.map fun q => dueA (res q))) := ((upd_ne hAl).trans (upd_ne ne.symm)).trans g3
  have p4 : (lexAt σ l lf ln2 cs2).get 0 = some (.tab tb) := ((upd_ne (fun q => by rw [q, g1] at etb; cases etb)).trans (upd_ne (fun q => by rw [q, g2] at etb; cases etb))).trans etb
  have q1 : l < (lexAt σ l lf ln2 cs2).nx := l1
  have q2 : lf < (lexAt σ l lf ln2 cs2).nx := l2
  have q3 : A < (lexAt σ l lf ln2 cs2).nx := l3
  generalize lexAt σ l lf ln2 cs2 = σ2 at *
  refine q_cons (.eq rfl (q_cons (.eq rfl (q_cons (.eq (a := (.loc σ2.nx, σ2.new (.list []))) (by kernel_rfl) (q_nil (.eq rfl ?_)))))))
  have kn : Keep σ2.nx σ2 (σ2.new (.list [])) := Keep.new (Nat.le_refl _)
  have as : AS (σ2.new (.list [])) l lf ln2 cs2 [] A (done.map fun q => dueA (res q)) σ2.nx (([] : List Int).map AV.int) :=
    ⟨kn.get q1 p1, kn.get q2 p2, kn.get q3 p3, new_get, Nat.lt_succ_of_lt q1, Nat.lt_succ_of_lt q2, Nat.lt_succ_of_lt q3, Nat.lt_succ_self _, ne, Nat.ne_of_lt q2, Nat.ne_of_lt q3, tb, kn.get (Nat.lt_of_le_of_lt (Nat.zero_le _) q1) p4⟩
  refine x_cons (by kernel_rfl) (ans_inner (n := n) (Q := [([], 256 + (q.1 : Int), 256 + (q.2 : Int))]) (found := none) (seen := []) (J := J q) (μ := μ) G H hSy hNt hJ0 hμ hstr hJ
    ⟨Eq.trans (b := m "lexer") (by kernel_rfl) o.lexer, Eq.trans (b := m "leads") (by kernel_rfl) o.leads, Eq.trans (b := m "told") (by kernel_rfl) o.told, Eq.trans (b := m "written") (by kernel_rfl) o.written, Eq.trans (b := m "answers") (by kernel_rfl) o.answers,
      by kernel_rfl, by kernel_rfl, [], flat W [([], 256 + (q.1 : Int), 256 + (q.2 : Int))], _, by kernel_rfl, .val, by kernel_rfl, rfl, as⟩ fun m3 σ3 f s q3' j3 => ?_)
  obtain rfl := hfin f s j3
  obtain ⟨push, fr, v, h1, h2, h3, h4, a⟩ := q3'.st
  have hp : push = [] := (List.append_eq_nil_iff.mp (show push ++ fr = [] from h4)).1
  subst hp
  have hres2 : resM σ3 (.loc A) "append" = some .append := res_app a.ansF
  have hrun : ∀ {p : Pos} {v : AV}, runM cfgP p (F (n + 1)) .append (.loc A) [v] σ3 = some (.none, σ3.upd A (.list ((done.map fun q => dueA (res q)) ++ [v]))) := fun {p v} => by
    show (match σ3.get A with
      | some (.list xs) => if xs.length < 2 ^ 20 then some (AV.none, σ3.upd A (.list (xs ++ [v]))) else none
      | _ => none) = _
    rw [a.ansF]
    show (if (done.map fun q => dueA (res q)).length < 2 ^ 20 then _ else none) = _
    rw [if_pos (by simp; first | lia | omega)]
  refine x_cons (by kernel_rfl) (x_expr rfl (q_meth (by decide) (q_name (Eq.trans (b := m3 "answers") (by kernel_rfl) q3'.answers) (.eq hres2 (q_cons (q_name (Eq.trans (b := m3 "found") (by kernel_rfl) q3'.found) (q_nil (.eq hrun ?_))))))))
  have a2 := a.setAns (ans' := (done.map fun q => dueA (res q)) ++ [dueA (res q)])
  simp only at ⊢
  generalize σ3.upd A (.list ((done.map fun q => dueA (res q)) ++ [dueA (res q)])) = σ4 at *
  obtain ⟨cs5, ln5, e5, t5, c5⟩ := get_any (n := n) h0 a2.lex a2.left t2
  refine x_cons (by kernel_rfl) (x_assign rfl (by kernel_rfl) (q_meth (by decide) (q_name (Eq.trans (b := m3 "lexer") (by kernel_rfl) q3'.lexer) (.eq (hres a2.lex) (q_nil (.eq e5 (x_nil (hP _ _ ?_))))))))
  have a5 := a2.at_ (ln' := ln5) (cs' := cs5)
  refine ⟨Eq.trans (b := m3 "lexer") (by kernel_rfl) q3'.lexer, Eq.trans (b := m3 "leads") (by kernel_rfl) q3'.leads, Eq.trans (b := m3 "told") (by kernel_rfl) q3'.told, Eq.trans (b := m3 "written") (by kernel_rfl) q3'.written, Eq.trans (b := m3 "answers") (by kernel_rfl) q3'.answers, ?_,
    ln5, cs5, a5.lex, a5.left, ?_, t5, by first | lia | omega, a5.l1, a5.l2, a5.l3, ne, a5.tab⟩
  · show (m3.set "start" _) "start" = _
    rw [Fm.set, if_pos rfl]
    rfl
  · rw [a5.ansF]; simp
end Mine
namespace Mine
open PySem PyProof.Rows

theorem call_answers {br : Nat → List Int} (G : GOk br) {Sy : Int → Prop} {W : Int → Str} {told wr : AV} (H : WOk Sy W told wr) (hSy : ∀ k, k < 4 → ∀ s ∈ br k, Sy s ∧ s ≠ 0) (hNt : ∀ x, Sy x → 256 ≤ x → ∃ j : Nat, j < 4 ∧ x = 256 + (j : Int)) (hN : ∀ j : Nat, j < 4 → Sy (256 + (j : Int))) (hS0 : Sy 0) (h0 : W 0 = ⟨#[]⟩)
    {res : Nat × Nat → Option (List Nat)} {J : Nat × Nat → List Trip → Option (List Nat) → List Int → Prop} {μ : List Trip → List Int → Nat} {n : Nat} {σ : Sto} {l lf : Nat} {ln : Int} {cs : List Nat} {qs : List (Nat × Nat)}
    (hq : ∀ q ∈ qs, q.1 < 4 ∧ q.2 < 4) (hql : qs.length < 1000)
    (hJ0 : ∀ q ∈ qs, J q [([], 256 + (q.1 : Int), 256 + (q.2 : Int))] none []) (hμ : ∀ q ∈ qs, μ [([], 256 + (q.1 : Int), 256 + (q.2 : Int))] [] < 100000) (hstr : ∀ q ∈ qs, ∀ Q f s, J q Q f s → StrsOk (flat W Q))
    (hJ : ∀ q ∈ qs, ∀ r x y Q f s, J q ((r, x, y) :: Q) f s → Sy x ∧ Sy y ∧ r.length ≤ 1000 ∧ s.length < 1000 ∧ (flat W ((r, x, y) :: Q)).length < 2 ^ 20 ∧ J q (Q ++ turnQ br r x y f s) (turnF br r x y f s) (turnS r x y f s) ∧ μ (Q ++ turnQ br r x y f s) (turnS r x y f s) < μ ((r, x, y) :: Q) s)
    (hfin : ∀ q ∈ qs, ∀ f s, J q [] f s → f = res q) (g1 : σ.get l = some (.lexer ln lf [])) (g2 : σ.get lf = some (.list (chars cs))) (l1 : l < σ.nx) (l2 : lf < σ.nx) (htab : ∃ b, σ.get 0 = some (.tab b)) (ht : Txt W cs (qsyms qs)) :
    Sat (F (n + 2) "_law_answers" [.loc l, leadsA br, told, wr] σ) fun z => z.1 = .list (qs.map fun q => dueA (res q)) ∧ z.2.get l = some (.lexer (ln + (cs.count 10 : Nat)) lf []) ∧ (∃ b, z.2.get 0 = some (.tab b)) ∧ σ.nx ≤ z.2.nx := by
  rw [F_def (i := 61) (by decide) (by kernel_rfl)]
  refine sat_call (by kernel_rfl) ?_
  have hres : ∀ {s : Sto} {ln : Int} {p : List AV}, s.get l = some (.lexer ln lf p) → resM s (.loc l) "get_token" = some (.lex "get_token") := fun h => res_get h
  have kn : Keep σ.nx σ (σ.new (.list [])) := Keep.new (Nat.le_refl _)
  obtain ⟨cs1, ln1, e1, t1, c1⟩ := get_any (n := n) (σ := σ.new (.list [])) h0 (kn.get l1 g1) (kn.get l2 g2) ht
  have hll : lf ≠ l := by rintro rfl; rw [g1] at g2; cases g2
  refine x_cons (by kernel_rfl) (x_assignT (by kernel_rfl) (q_tuple (by decide) (q_cons (.eq (a := (.loc σ.nx, σ.new (.list []))) (by kernel_rfl) (q_cons (q_meth (by decide) (q_name (v := .loc l) (by kernel_rfl) (.eq (hres (kn.get l1 g1)) (q_nil (.eq e1 (q_nil (.eq rfl ?_))))))))))))
  have p3 : (lexAt (σ.new (.list [])) l lf ln1 cs1).get σ.nx = some (.list []) := ((upd_ne (Nat.ne_of_gt l1)).trans (upd_ne (Nat.ne_of_gt l2))).trans new_get
  obtain ⟨tb, etb⟩ := htab
  have p4 : (lexAt (σ.new (.list [])) l lf ln1 cs1).get 0 = some (.tab tb) := ((upd_ne (fun q => by rw [q, g1] at etb; cases etb)).trans (upd_ne (fun q => by rw [q, g2] at etb; cases etb))).trans (kn.get (Nat.lt_of_le_of_lt (Nat.zero_le _) l1) etb)
  refine x_cons (by kernel_rfl) (x_while (n := qs.length) (I := fun k s => ∃ done rest, qs = done ++ rest ∧ rest.length = k ∧ σ.nx < s.2.nx ∧ OSt W told wr br res l lf σ.nx (ln + (cs.count 10 : Nat)) done rest s.1 s.2) (by show _ < 100000; first | lia | omega)
    ⟨[], qs, rfl, rfl, Nat.lt_succ_self _, ⟨by kernel_rfl, by kernel_rfl, by kernel_rfl, by kernel_rfl, by kernel_rfl, by kernel_rfl, ln1, cs1, lexAt_get, lexAt_left hll, p3, t1, c1, Nat.lt_succ_of_lt l1, Nat.lt_succ_of_lt l2, Nat.lt_succ_self _, Nat.ne_of_lt l2, tb, p4⟩⟩ (fun k s h => ?_))
  obtain ⟨m2, σ2⟩ := s
  obtain ⟨done, rest, hqs, rfl, hnx, o⟩ := h
  simp only at hnx o
  have hSs : Sy ((qsyms rest).headD 0) := by
    cases rest with
    | nil => exact hS0
    | cons q rs => exact hN q.1 (hq q (by rw [hqs]; simp)).1
  refine t_not (t_plain rfl (q_call rfl (g := .glob "ISEOF") (by kernel_rfl) (q_cons (q_call rfl (g := .glob "_law_symbol") (by kernel_rfl) (q_cons (q_name (Eq.trans (b := m2 "start") (by kernel_rfl) o.start) (q_cons (q_name (Eq.trans (b := m2 "told") (by kernel_rfl) o.told) (q_nil (.eq (H.sym (n := n) hSs) (q_nil (.eq call_iseof (.eq rfl ?_)))))))))))))
  have k5 : Keep σ2.nx σ2 ((σ2.upto σ2.nx).upto (σ2.upto σ2.nx).nx) := (Keep.upto (Nat.le_refl _)).trans (Keep.upto (Nat.le_refl _))
  obtain ⟨ln2, cs2, b1, b2, b3, b4, b5, b6, b7, b8, b9, bt, b10⟩ := o.st
  have o' : OSt W told wr br res l lf σ.nx (ln + (cs.count 10 : Nat)) done rest m2 ((σ2.upto σ2.nx).upto (σ2.upto σ2.nx).nx) :=
    ⟨o.lexer, o.leads, o.told, o.written, o.answers, o.start, ln2, cs2, k5.get b6 b1, k5.get b7 b2, k5.get b8 b3, b4, b5, b6, b7, b8, b9, bt, k5.get (Nat.lt_of_le_of_lt (Nat.zero_le _) b6) b10⟩
  have hnx' : σ.nx < ((σ2.upto σ2.nx).upto (σ2.upto σ2.nx).nx).nx := hnx
  simp only at ⊢
  generalize ((σ2.upto σ2.nx).upto (σ2.upto σ2.nx).nx) = σ3 at *
  cases rest with
  | nil =>
    rw [if_neg (by decide)]
    obtain ⟨ln6, cs6, d1, d2, d3, d4, d5, d6, d7, d8, d9, dt, d10⟩ := o'.st
    rw [List.append_nil] at hqs
    subst hqs
    refine x_consF (x := "answers") (by kernel_rfl) o'.answers d3 (x_return (q_name (v := .list (qs.map fun q => dueA (res q))) (by kernel_rfl) ⟨rfl, ?_, ⟨dt, ?_⟩, Nat.le_of_lt hnx'⟩))
    have hcs : cs6 = [] := d4
    subst hcs
    have hl : ln6 = ln + (cs.count 10 : Nat) := by simpa using d5
    subst hl
    · show (if l < σ.nx then (if l = σ.nx then none else σ3.get l) else none) = _
      rw [if_pos l1, if_neg (Nat.ne_of_lt l1)]
      exact d1
    · show (if 0 < σ.nx then (if 0 = σ.nx then none else σ3.get 0) else none) = _
      have h0 : 0 < σ.nx := Nat.lt_of_le_of_lt (Nat.zero_le _) l1
      rw [if_pos h0, if_neg (Nat.ne_of_lt h0)]
      exact d10
  | cons q rs =>
    rw [if_pos (by show (!(PyData.eqv (.int (256 + (q.1 : Int))) (.int 0))) = true; simp [PyData.eqv]; first | lia | omega)]
    have hqm : q ∈ qs := by rw [hqs]; simp
    have hdl : done.length < 1000 := by have : qs.length = done.length + (rs.length + 1) := by rw [hqs]; simp
                                        first | lia | omega
    refine ans_body (n := n) (μ := μ) (J := J) G H hSy hNt h0 (hJ0 q hqm) (hμ q hqm) (hstr q hqm) hdl (hJ q hqm) (hfin q hqm) o' fun m4 σ4 o4 => ?_
    exact ⟨rs.length, Nat.lt_succ_self _, done ++ [q], rs, by rw [hqs]; simp, rfl, o4.st.elim fun _ h => h.elim fun _ h => h.2.2.2.2.2.2.2.1, o4⟩
end Mine
namespace Mine
open PySem

/-- the place of a road in the order of roads (steps are 0 and 1) -/
noncomputable def code (r : List Nat) : Nat := r.foldl (fun c d => 2 * c + d) 1
theorem code_snoc {r : List Nat} {d : Nat} : code (r ++ [d]) = 2 * code r + d := by simp [code]
theorem fold_lt : ∀ (s : List Nat) {c c' : Nat}, c < c' → s.foldl (fun c d => 2 * c + d) c < s.foldl (fun c d => 2 * c + d) c'
  | [], _, _, h => h
  | d :: s, c, c', h => fold_lt s (c := 2 * c + d) (c' := 2 * c' + d) (by first | lia | omega)
theorem fold_le : ∀ (s : List Nat) {c : Nat}, c ≤ s.foldl (fun c d => 2 * c + d) c
  | [], _ => Nat.le_refl _
  | d :: s, c => Nat.le_trans (by first | lia | omega) (fold_le s (c := 2 * c + d))
theorem code_app {r s : List Nat} : code (r ++ s) = s.foldl (fun c d => 2 * c + d) (code r) := by simp [code, List.foldl_append]
theorem code_app_lt {a b s : List Nat} (h : code a < code b) : code (a ++ s) < code (b ++ s) := by rw [code_app, code_app]; exact fold_lt s h
theorem code_pre {p s : List Nat} : code p ≤ code (p ++ s) := by rw [code_app]; exact fold_le s
theorem code_pos {r : List Nat} : 1 ≤ code r := fold_le r
theorem there_term {br : Nat → List Int} {x : Int} (h : x < 256) {s : List Nat} : there br x s = if s = [] then some x else none := by
  cases s with
  | nil => simp [there, h]
  | cons d s => simp [there, h]
end Mine
namespace Mine
open PySem

noncomputable def Bits (r : List Nat) : Prop := ∀ d ∈ r, d < 2
noncomputable def Diff (br : Nat → List Int) (a b : Int) (t : List Nat) : Prop := there br a t ≠ there br b t
/-- the node at the road's end -/
noncomputable def NodeAt (br : Nat → List Int) (a : Int) (r : List Nat) (x : Int) : Prop := ∀ s, there br a (r ++ s) = there br x s

/-- the invariant of the queue -/
structure J02 (br : Nat → List Int) (a b : Int) (Q : List Trip) (f : Option (List Nat)) (seen : List Int) : Prop where
  sym : ∀ e ∈ Q, SymOk e.2.1 ∧ SymOk e.2.2 ∧ Bits e.1 ∧ e.1.length ≤ seen.length
  node : ∀ e ∈ Q, NodeAt br a e.1 e.2.1 ∧ NodeAt br b e.1 e.2.2
  rising : Q.Pairwise fun e e' => code e.1 < code e'.1
  kids : ∀ e ∈ Q, e.1 = [] ∨ ∃ p d, e.1 = p ++ [d] ∧ ∀ e' ∈ Q, code p < code e'.1
  seenAt : ∀ z ∈ seen, ∃ (x y : Nat) (r : List Nat), x < 4 ∧ y < 4 ∧ z = 1000 * (256 + (x : Int)) + (256 + (y : Int)) ∧ NodeAt br a r (256 + (x : Int)) ∧ NodeAt br b r (256 + (y : Int)) ∧ Bits r ∧ ∀ e ∈ Q, code r < code e.1
  nodup : seen.Nodup
  live : f = none → ∀ t, Bits t → Diff br a b t → ∃ e ∈ Q, ∃ s, code (e.1 ++ s) ≤ code t ∧ Bits s ∧ Diff br a b (e.1 ++ s)
  dead : ∀ r, f = some r → Bits r ∧ Diff br a b r ∧ ∀ t, Bits t → Diff br a b t → code r ≤ code t

theorem there_kid {br : Nat → List Int} {j d : Nat} {t : Int} {s : List Nat} (h : (br j)[d]? = some t) : there br (256 + (j : Int)) (d :: s) = there br t s := by
  rw [there_dn, h]
theorem there_off {br : Nat → List Int} {j d : Nat} {s : List Nat} (h : (br j)[d]? = none) : there br (256 + (j : Int)) (d :: s) = none := by
  rw [there_dn, h]
theorem NodeAt.kid {br : Nat → List Int} {a : Int} {r : List Nat} {j d : Nat} {t : Int} (h : NodeAt br a r (256 + (j : Int))) (ht : (br j)[d]? = some t) : NodeAt br a (r ++ [d]) t := fun s => by
  rw [List.append_assoc, List.singleton_append, h, there_kid ht]
theorem NodeAt.root {br : Nat → List Int} {a : Int} : NodeAt br a [] a := fun _ => rfl
theorem J02.start {br : Nat → List Int} {a b : Int} (ha : SymOk a) (hb : SymOk b) : J02 br a b [([], a, b)] none [] where
  sym e he := by rw [List.mem_singleton.mp he]; exact ⟨ha, hb, by simp [Bits], Nat.le_refl _⟩
  node e he := by rw [List.mem_singleton.mp he]; exact ⟨.root, .root⟩
  rising := by simp
  kids e he := by rw [List.mem_singleton.mp he]; exact .inl rfl
  seenAt z hz := by cases hz
  nodup := .nil
  live _ t ht hd := ⟨_, List.mem_singleton.mpr rfl, t, Nat.le_refl _, ht, hd⟩
  dead r h := by cases h
end Mine
namespace Mine
open PySem

/-- two nodes whose looks differ at once -/
noncomputable def Now (br : Nat → List Int) (x y : Int) : Prop := Diff br x y []
theorem NodeAt.diff {br : Nat → List Int} {a b x y : Int} {r s : List Nat} (ha : NodeAt br a r x) (hb : NodeAt br b r y) : Diff br a b (r ++ s) ↔ Diff br x y s := by
  unfold Diff
  rw [ha s, hb s]
theorem now_iff {br : Nat → List Int} {x y : Int} (hx : SymOk x) (hy : SymOk y) : Diff br x y [] ↔ (x ≠ y ∧ (x < 256 ∨ y < 256)) ∨ (256 ≤ x ∧ 256 ≤ y ∧ (br (x - 256).toNat).length ≠ (br (y - 256).toNat).length) := by
  unfold Diff
  simp only [there]
  rcases hx with ⟨hx1, hx2⟩ | ⟨jx, hjx, rfl⟩ <;> rcases hy with ⟨hy1, hy2⟩ | ⟨jy, hjy, rfl⟩
  · rw [if_pos hx2, if_pos hy2]
    simp only [ne_eq, Option.some.injEq]
    first | lia | omega
  · rw [if_pos hx2, if_neg (by first | lia | omega)]
    simp only [ne_eq, Option.some.injEq]
    first | lia | omega
  · rw [if_neg (by first | lia | omega), if_pos hy2]
    simp only [ne_eq, Option.some.injEq]
    first | lia | omega
  · rw [if_neg (by first | lia | omega), if_neg (by first | lia | omega)]
    simp only [ne_eq, Option.some.injEq]
    first | lia | omega
theorem J02.head_le {br : Nat → List Int} {a b x y : Int} {r : List Nat} {Q : List Trip} {f : Option (List Nat)} {seen : List Int} (J : J02 br a b ((r, x, y) :: Q) f seen) : ∀ e ∈ (r, x, y) :: Q, code r ≤ code e.1 := fun e he => by
  rcases List.mem_cons.mp he with rfl | he
  · exact Nat.le_refl _
  · exact Nat.le_of_lt ((List.pairwise_cons.mp J.rising).1 e he)
/-- a difference at the head is the least of all -/
theorem J02.least {br : Nat → List Int} {a b x y : Int} {r : List Nat} {Q : List Trip} {seen : List Int} (J : J02 br a b ((r, x, y) :: Q) none seen) (h : Diff br x y []) : Bits r ∧ Diff br a b r ∧ ∀ t, Bits t → Diff br a b t → code r ≤ code t := by
  have h1 := J.sym _ List.mem_cons_self
  have h2 := J.node _ List.mem_cons_self
  refine ⟨h1.2.2.1, ?_, fun t ht hd => ?_⟩
  · have := (NodeAt.diff h2.1 h2.2 (s := [])).mpr h
    rwa [List.append_nil] at this
  · obtain ⟨e, he, s, hs, _⟩ := J.live rfl t ht hd
    exact Nat.le_trans (J.head_le e he) (Nat.le_trans code_pre hs)
end Mine
namespace Mine
open PySem

theorem J02.drop {br : Nat → List Int} {a b x y : Int} {r : List Nat} {Q : List Trip} {f f' : Option (List Nat)} {seen : List Int} (J : J02 br a b ((r, x, y) :: Q) f seen)
    (hl : f' = none → ∀ t, Bits t → Diff br a b t → ∃ e ∈ Q, ∃ s, code (e.1 ++ s) ≤ code t ∧ Bits s ∧ Diff br a b (e.1 ++ s))
    (hd : ∀ r, f' = some r → Bits r ∧ Diff br a b r ∧ ∀ t, Bits t → Diff br a b t → code r ≤ code t) : J02 br a b Q f' seen where
  sym e he := J.sym e (List.mem_cons_of_mem _ he)
  node e he := J.node e (List.mem_cons_of_mem _ he)
  rising := (List.pairwise_cons.mp J.rising).2
  kids e he := (J.kids e (List.mem_cons_of_mem _ he)).imp id fun ⟨p, d, h1, h2⟩ => ⟨p, d, h1, fun e' he' => h2 e' (List.mem_cons_of_mem _ he')⟩
  seenAt z hz := let ⟨x, y, r, h1, h2, h3, h4, h5, h6, h7⟩ := J.seenAt z hz; ⟨x, y, r, h1, h2, h3, h4, h5, h6, fun e he => h7 e (List.mem_cons_of_mem _ he)⟩
  nodup := J.nodup
  live := hl
  dead := hd
/-- a pair that was seen before may be dropped -/
theorem J02.pruned {br : Nat → List Int} {a b x y : Int} {r r0 : List Nat} {Q : List Trip} {seen : List Int} (J : J02 br a b ((r, x, y) :: Q) none seen) (n1 : NodeAt br a r0 x) (n2 : NodeAt br b r0 y) (hb : Bits r0) (hlt : code r0 < code r) :
    ∀ (n : Nat) (t : List Nat), code t ≤ n → Bits t → Diff br a b t → ∃ e ∈ Q, ∃ s, code (e.1 ++ s) ≤ code t ∧ Bits s ∧ Diff br a b (e.1 ++ s)
  | 0, t, hn, _, _ => absurd (code_pos (r := t)) (by first | lia | omega)
  | n + 1, t, hn, ht, hd => by
    obtain ⟨e, he, s, h1, h2, h3⟩ := J.live rfl t ht hd
    rcases List.mem_cons.mp he with rfl | he
    · have hn2 := J.node _ List.mem_cons_self
      have d2 := (NodeAt.diff n1 n2).mpr ((NodeAt.diff hn2.1 hn2.2).mp h3)
      have lt := code_app_lt (s := s) hlt
      obtain ⟨e', he', s', k1, k2, k3⟩ := J02.pruned J n1 n2 hb hlt n (r0 ++ s) (by simp only at h1; first | lia | omega) (fun d hdm => (List.mem_append.mp hdm).elim (hb d) (h2 d)) d2
      exact ⟨e', he', s', by simp only at h1; first | lia | omega, k2, k3⟩
    · exact ⟨e, he, s, h1, h2, h3⟩
/-- a head without any difference may be dropped -/
theorem J02.same {br : Nat → List Int} {a b x y : Int} {r : List Nat} {Q : List Trip} {seen : List Int} (J : J02 br a b ((r, x, y) :: Q) none seen) (h : ∀ s, ¬ Diff br x y s) :
    ∀ t, Bits t → Diff br a b t → ∃ e ∈ Q, ∃ s, code (e.1 ++ s) ≤ code t ∧ Bits s ∧ Diff br a b (e.1 ++ s) := fun t ht hd => by
  obtain ⟨e, he, s, h1, h2, h3⟩ := J.live rfl t ht hd
  rcases List.mem_cons.mp he with rfl | he
  · have hn2 := J.node _ List.mem_cons_self
    exact absurd ((NodeAt.diff hn2.1 hn2.2).mp h3) (h s)
  · exact ⟨e, he, s, h1, h2, h3⟩
end Mine
namespace Mine
open PySem

theorem newQ_mem {r : List Nat} {bx bz : List Int} {e : Trip} : e ∈ newQ r bx bz ↔ ∃ i, i < bx.length ∧ i < bz.length ∧ e = (r ++ [i], bx.getD i 0, bz.getD i 0) := by
  unfold newQ
  simp only [List.mem_map, List.mem_range]
  constructor
  · rintro ⟨i, hi, rfl⟩; exact ⟨i, by first | lia | omega, by first | lia | omega, rfl⟩
  · rintro ⟨i, h1, h2, rfl⟩; exact ⟨i, by first | lia | omega, rfl⟩
theorem newQ_rising {r : List Nat} {bx bz : List Int} : (newQ r bx bz).Pairwise fun e e' => code e.1 < code e'.1 := by
  unfold newQ
  rw [List.pairwise_map]
  refine List.Pairwise.imp (fun {i j} h => ?_) (List.pairwise_lt_range)
  rw [code_snoc, code_snoc]
  first | lia | omega
theorem kid_of_diff {br : Nat → List Int} {jx jy : Nat} {s : List Nat} (hl : (br jx).length = (br jy).length) (h : Diff br (256 + (jx : Int)) (256 + (jy : Int)) s) : ∃ d s', s = d :: s' ∧ d < (br jx).length ∧ Diff br ((br jx).getD d 0) ((br jy).getD d 0) s' := by
  cases s with
  | nil =>
    unfold Diff at h
    rw [there_nm, there_nm, hl] at h
    exact absurd rfl h
  | cons d s =>
    refine ⟨d, s, rfl, ?_⟩
    by_cases hd : d < (br jx).length
    · refine ⟨hd, ?_⟩
      unfold Diff at h ⊢
      rw [there_kid (List.getElem?_eq_getElem hd), there_kid (List.getElem?_eq_getElem (hl ▸ hd))] at h
      simpa [List.getD, List.getElem?_eq_getElem hd, List.getElem?_eq_getElem (hl ▸ hd : d < (br jy).length)] using h
    · unfold Diff at h
      rw [there_off (List.getElem?_eq_none (by first | lia | omega)), there_off (List.getElem?_eq_none (by first | lia | omega))] at h
      exact absurd rfl h
end Mine
namespace Mine
open PySem

theorem bits_snoc {r : List Nat} {i : Nat} (h : Bits r) (hi : i < 2) : Bits (r ++ [i]) := fun d hd => by
  rcases List.mem_append.mp hd with h1 | h1
  · exact h d h1
  · rw [List.mem_singleton.mp h1]; exact hi
theorem getD_of_lt {b : List Int} {i : Nat} (h : i < b.length) : b[i]? = some (b.getD i 0) := by simp [List.getD, List.getElem?_eq_getElem h]
theorem getD_mem {b : List Int} {i : Nat} (h : i < b.length) : b.getD i 0 ∈ b := by simp [List.getD, List.getElem?_eq_getElem h]

/-- the head that grows -/
theorem J02.grow {br : Nat → List Int} (G : GOk br) {a b : Int} {jx jy : Nat} (hx : jx < 4) (hy : jy < 4) {r : List Nat} {Q : List Trip} {seen : List Int} (J : J02 br a b ((r, 256 + (jx : Int), 256 + (jy : Int)) :: Q) none seen)
    (hn : 1000 * (256 + (jx : Int)) + (256 + (jy : Int)) ∉ seen) {f' : Option (List Nat)} (hl : f' = none → (br jx).length = (br jy).length)
    (hd : ∀ r, f' = some r → Bits r ∧ Diff br a b r ∧ ∀ t, Bits t → Diff br a b t → code r ≤ code t) : J02 br a b (Q ++ newQ r (br jx) (br jy)) f' (seen ++ [1000 * (256 + (jx : Int)) + (256 + (jy : Int))]) := by
  have hs := J.sym _ List.mem_cons_self
  have hno := J.node _ List.mem_cons_self
  simp only at hs hno
  have lx := G.len jx hx
  have ly := G.len jy hy
  have hri := List.pairwise_cons.mp J.rising
  simp only at hri
  have hnew : ∀ e ∈ newQ r (br jx) (br jy), code r < code e.1 := fun e he => by
    obtain ⟨i, h1, h2, rfl⟩ := newQ_mem.mp he
    rw [code_snoc]
    have := code_pos (r := r)
    first | lia | omega
  have hall : ∀ e ∈ Q ++ newQ r (br jx) (br jy), code r < code e.1 := fun e he => (List.mem_append.mp he).elim (hri.1 e) (hnew e)
  refine ⟨fun e he => ?_, fun e he => ?_, ?_, fun e he => ?_, fun z hz => ?_, ?_, fun h t ht hdt => ?_, hd⟩
  · rcases List.mem_append.mp he with he | he
    · obtain ⟨h1, h2, h3, h4⟩ := J.sym e (List.mem_cons_of_mem _ he)
      exact ⟨h1, h2, h3, by simp; first | lia | omega⟩
    · obtain ⟨i, h1, h2, rfl⟩ := newQ_mem.mp he
      refine ⟨G.sym jx hx _ (getD_mem h1), G.sym jy hy _ (getD_mem h2), bits_snoc hs.2.2.1 (by first | lia | omega), ?_⟩
      have := hs.2.2.2
      simp; first | lia | omega
  · rcases List.mem_append.mp he with he | he
    · exact J.node e (List.mem_cons_of_mem _ he)
    · obtain ⟨i, h1, h2, rfl⟩ := newQ_mem.mp he
      exact ⟨hno.1.kid (getD_of_lt h1), hno.2.kid (getD_of_lt h2)⟩
  · refine List.pairwise_append.mpr ⟨hri.2, newQ_rising, fun e he e' he' => ?_⟩
    obtain ⟨i, h1, h2, rfl⟩ := newQ_mem.mp he'
    simp only
    rw [code_snoc]
    have hc := hri.1 e he
    rcases J.kids e (List.mem_cons_of_mem _ he) with h | ⟨p, d, h3, h4⟩
    · rw [h] at hc
      have : code [] = 1 := rfl
      have := code_pos (r := r)
      first | lia | omega
    · have h5 := h4 _ List.mem_cons_self
      simp only at h5
      have hb := (J.sym e (List.mem_cons_of_mem _ he)).2.2.1
      have hd2 : d < 2 := hb d (by rw [h3]; simp)
      rw [h3, code_snoc]
      first | lia | omega
  · rcases List.mem_append.mp he with he | he
    · refine (J.kids e (List.mem_cons_of_mem _ he)).imp id fun ⟨p, d, h3, h4⟩ => ⟨p, d, h3, fun e' he' => ?_⟩
      have h5 := h4 _ List.mem_cons_self
      exact Nat.lt_trans h5 (hall e' he')
    · obtain ⟨i, h1, h2, rfl⟩ := newQ_mem.mp he
      exact .inr ⟨r, i, rfl, hall⟩
  · rcases List.mem_append.mp hz with hz | hz
    · obtain ⟨x, y, r0, h1, h2, h3, h4, h5, h6, h7⟩ := J.seenAt z hz
      have h8 := h7 _ List.mem_cons_self
      exact ⟨x, y, r0, h1, h2, h3, h4, h5, h6, fun e he => Nat.lt_trans h8 (hall e he)⟩
    · rw [List.mem_singleton.mp hz]
      exact ⟨jx, jy, r, hx, hy, rfl, hno.1, hno.2, hs.2.2.1, hall⟩
  · refine List.nodup_append.mpr ⟨J.nodup, by simp, fun z hz w hw => ?_⟩
    rw [List.mem_singleton.mp hw]
    rintro rfl
    exact hn hz
  · obtain ⟨e, he, s, h1, h2, h3⟩ := J.live rfl t ht hdt
    rcases List.mem_cons.mp he with rfl | he
    · have hxy := (NodeAt.diff hno.1 hno.2).mp h3
      obtain ⟨d, s', rfl, h5, h6⟩ := kid_of_diff (hl h) hxy
      refine ⟨(r ++ [d], (br jx).getD d 0, (br jy).getD d 0), List.mem_append_right _ (newQ_mem.mpr ⟨d, h5, hl h ▸ h5, rfl⟩), s', ?_, fun c hc => h2 c (List.mem_cons_of_mem _ hc), ?_⟩
      · simpa using h1
      · simpa using h3
    · exact ⟨e, List.mem_append_left _ he, s, h1, h2, h3⟩

/-- the invariant is kept by a turn -/
theorem J02.turn {br : Nat → List Int} (G : GOk br) {a b x y : Int} {r : List Nat} {Q : List Trip} {f : Option (List Nat)} {seen : List Int} (J : J02 br a b ((r, x, y) :: Q) f seen) :
    J02 br a b (Q ++ turnQ br r x y f seen) (turnF br r x y f seen) (turnS r x y f seen) := by
  unfold turnQ turnF turnS
  have hs := J.sym _ List.mem_cons_self
  simp only at hs
  have hno := J.node _ List.mem_cons_self
  simp only at hno
  cases f with
  | some w =>
    have e : stepF r x y (some w) = some w := by simp [stepF]
    rw [e]
    have ng : ¬ goes' x y (some w) seen := by simp [goes']
    rw [if_neg ng, if_neg ng, if_neg ng, List.append_nil]
    exact J.drop (by simp) J.dead
  | none =>
    by_cases h1 : x ≠ y ∧ (x < 256 ∨ y < 256)
    · have e : stepF r x y none = some r := by simp [stepF, h1]
      rw [e]
      have ng : ¬ goes' x y (some r) seen := by simp [goes']
      rw [if_neg ng, if_neg ng, if_neg ng, List.append_nil]
      refine J.drop (by simp) fun r' hr' => ?_
      injection hr' with hr'
      subst hr'
      exact J.least ((now_iff hs.1 hs.2.1).mpr (.inl h1))
    · have e : stepF r x y none = none := by
        unfold stepF
        rw [if_neg]
        rintro ⟨-, h2⟩
        exact h1 h2
      rw [e]
      by_cases hg : goes' x y none seen
      · rw [if_pos hg, if_pos hg, if_pos hg]
        obtain ⟨-, gx, gy, gn⟩ := hg
        obtain ⟨jx, hjx, rfl⟩ : ∃ j : Nat, j < 4 ∧ x = 256 + (j : Int) := hs.1.elim (fun h => by first | lia | omega) id
        obtain ⟨jy, hjy, rfl⟩ : ∃ j : Nat, j < 4 ∧ y = 256 + (j : Int) := hs.2.1.elim (fun h => by first | lia | omega) id
        have jx2 : (256 + (jx : Int) - 256).toNat = jx := nm_ix
        have jy2 : (256 + (jy : Int) - 256).toNat = jy := nm_ix
        rw [jx2, jy2]
        refine J.grow G hjx hjy gn (fun h => ?_) fun r' hr' => ?_
        · by_cases hl : (br jx).length = (br jy).length
          · exact hl
          · rw [if_neg hl] at h; cases h
        · by_cases hl : (br jx).length = (br jy).length
          · rw [if_pos hl] at hr'; cases hr'
          · rw [if_neg hl] at hr'
            injection hr' with hr'
            subst hr'
            refine J.least ((now_iff hs.1 hs.2.1).mpr (.inr ⟨gx, gy, ?_⟩))
            rw [jx2, jy2]; exact hl
      · rw [if_neg hg, if_neg hg, if_neg hg, List.append_nil]
        refine J.drop (fun _ => ?_) (by simp)
        by_cases hxy : x = y
        · subst hxy
          exact J.same fun s h => h rfl
        · have gx : 256 ≤ x := by first | lia | omega
          have gy : 256 ≤ y := by first | lia | omega
          have gin : 1000 * x + y ∈ seen := by
            by_cases h : 1000 * x + y ∈ seen
            · exact h
            · exact absurd ⟨rfl, gx, gy, h⟩ hg
          obtain ⟨x', y', r0, k1, k2, k3, k4, k5, k6, k7⟩ := J.seenAt _ gin
          obtain ⟨jx, hjx, rfl⟩ : ∃ j : Nat, j < 4 ∧ x = 256 + (j : Int) := hs.1.elim (fun h => by first | lia | omega) id
          obtain ⟨jy, hjy, rfl⟩ : ∃ j : Nat, j < 4 ∧ y = 256 + (j : Int) := hs.2.1.elim (fun h => by first | lia | omega) id
          obtain rfl : jx = x' := by first | lia | omega
          obtain rfl : jy = y' := by first | lia | omega
          have h7 := k7 _ List.mem_cons_self
          exact fun t ht hd => J.pruned k4 k5 k6 h7 _ t (Nat.le_refl _) ht hd
end Mine
namespace Mine
open PySem

theorem fold_bounds : ∀ (s : List Nat) (c : Nat), Bits s → c * 2 ^ s.length ≤ s.foldl (fun c d => 2 * c + d) c ∧ s.foldl (fun c d => 2 * c + d) c < (c + 1) * 2 ^ s.length
  | [], c, _ => by simp
  | d :: s, c, h => by
    have hd : d < 2 := h d List.mem_cons_self
    obtain ⟨h1, h2⟩ := fold_bounds s (2 * c + d) fun x hx => h x (List.mem_cons_of_mem _ hx)
    simp only [List.foldl_cons, List.length_cons]
    rw [Nat.pow_succ]
    generalize 2 ^ s.length = w at *
    have e1 : (2 * c + d) * w = 2 * (c * w) + d * w := by rw [Nat.add_mul, Nat.mul_assoc]
    have e2 : (2 * c + d + 1) * w = 2 * (c * w) + d * w + w := by rw [Nat.add_mul, e1, Nat.one_mul]
    have e3 : c * (w * 2) = 2 * (c * w) := by rw [← Nat.mul_assoc, Nat.mul_comm]
    have e4 : (c + 1) * (w * 2) = 2 * (c * w) + 2 * w := by rw [Nat.add_mul, e3, Nat.one_mul, Nat.mul_comm w 2]
    have : d * w ≤ w := by
      have : d = 0 ∨ d = 1 := or2 (by first | assumption | lia | omega)
      rcases this with rfl | rfl <;> simp
    first | lia | omega
theorem code_low {r : List Nat} (h : Bits r) : 2 ^ r.length ≤ code r := by have := (fold_bounds r 1 h).1; rw [Nat.one_mul] at this; exact this
theorem code_high {r : List Nat} (h : Bits r) : code r < 2 * 2 ^ r.length := (fold_bounds r 1 h).2
theorem code_short {r s : List Nat} (hr : Bits r) (hs : Bits s) (h : r.length < s.length) : code r < code s := by
  have h1 := code_high hr
  have h2 := code_low hs
  have : 2 * 2 ^ r.length ≤ 2 ^ s.length := by
    rw [Nat.mul_comm, ← Nat.pow_succ]
    exact Nat.pow_le_pow_right (by decide) h
  first | lia | omega

/-- alike along all roads of at most k steps -/
noncomputable def AgN (br : Nat → List Int) (k n m : Nat) : Prop := ∀ s, Bits s → s.length ≤ k → there br (256 + (n : Int)) s = there br (256 + (m : Int)) s
theorem AgN.refl {br k n} : AgN br k n n := fun _ _ _ => rfl
theorem AgN.symm {br k n m} (h : AgN br k n m) : AgN br k m n := fun s a b => (h s a b).symm
theorem AgN.trans {br k n m l} (h : AgN br k n m) (g : AgN br k m l) : AgN br k n l := fun s a b => (h s a b).trans (g s a b)
theorem AgN.less {br k l n m} (h : AgN br k n m) (hl : l ≤ k) : AgN br l n m := fun s a b => h s a (Nat.le_trans b hl)

theorem AgN.stable {br : Nat → List Int} (G : GOk br) {k : Nat} (h : ∀ n m, n < 4 → m < 4 → AgN br k n m → AgN br (k + 1) n m) : ∀ (s : List Nat), Bits s → ∀ n m, n < 4 → m < 4 → AgN br k n m → there br (256 + (n : Int)) s = there br (256 + (m : Int)) s
  | [], hs, n, m, hn, hm, ha => ha [] hs (Nat.zero_le _)
  | d :: s, hs, n, m, hn, hm, ha => by
    have hb := h n m hn hm ha
    have hd2 : d < 2 := hs d List.mem_cons_self
    have hs' : Bits s := fun x hx => hs x (List.mem_cons_of_mem _ hx)
    have h0 := ha [] (by simp [Bits]) (Nat.zero_le _)
    rw [there_nm, there_nm] at h0
    have hl : (br n).length = (br m).length := by
      injection h0 with h0
      first | lia | omega
    by_cases hd : d < (br n).length
    · have e1 := getD_of_lt hd
      have e2 := getD_of_lt (hl ▸ hd : d < (br m).length)
      have s1 := G.sym n hn _ (getD_mem hd)
      have s2 := G.sym m hm _ (getD_mem (hl ▸ hd : d < (br m).length))
      generalize (br n).getD d 0 = x at *
      generalize (br m).getD d 0 = y at *
      have key : ∀ u, Bits u → u.length ≤ k → there br x u = there br y u := fun u hu hk => by
        have := hb (d :: u) (fun c hc => by
          rcases List.mem_cons.mp hc with rfl | hc
          · exact hd2
          · exact hu c hc) (by simp; first | lia | omega)
        rwa [there_kid e1, there_kid e2] at this
      rw [there_kid e1, there_kid e2]
      have k0 := key [] (by simp [Bits]) (Nat.zero_le _)
      simp only [there] at k0
      rcases s1 with ⟨x1, x2⟩ | ⟨j, hj, rfl⟩ <;> rcases s2 with ⟨y1, y2⟩ | ⟨i, hi, rfl⟩
      · rw [if_pos x2, if_pos y2] at k0
        injection k0 with k0
        rw [k0]
      · rw [if_pos x2, if_neg (by first | lia | omega)] at k0
        injection k0 with k0
        first | lia | omega
      · rw [if_neg (by first | lia | omega), if_pos y2] at k0
        injection k0 with k0
        first | lia | omega
      · exact stable G h s hs' j i hj hi key
    · rw [there_off (List.getElem?_eq_none (by first | lia | omega)), there_off (List.getElem?_eq_none (by first | lia | omega))]

/-- the number of classes of four -/
noncomputable def cnt (e : Nat → Nat → Bool) : Nat := 1 + (!e 0 1).toNat + (!e 0 2 && !e 1 2).toNat + (!e 0 3 && !e 1 3 && !e 2 3).toNat
noncomputable def tri3 (x y z : Bool) : Bool := (!(x && y) || z) && (!(x && z) || y) && (!(y && z) || x)
noncomputable def triB (a01 a02 a03 a12 a13 a23 : Bool) : Bool := tri3 a01 a12 a02 && tri3 a01 a13 a03 && tri3 a02 a23 a03 && tri3 a12 a23 a13
noncomputable def cntB (a01 a02 a03 a12 a13 a23 : Bool) : Nat := 1 + (!a01).toNat + (!a02 && !a12).toNat + (!a03 && !a13 && !a23).toNat
theorem cnt_lt' : ∀ a01 a02 a03 a12 a13 a23 : Bool, triB a01 a02 a03 a12 a13 a23 = true → ∀ b01 b02 b03 b12 b13 b23 : Bool, triB b01 b02 b03 b12 b13 b23 = true →
    ((!b01 || a01) && (!b02 || a02) && (!b03 || a03) && (!b12 || a12) && (!b13 || a13) && (!b23 || a23)) = true →
    ((!a01 || b01) && (!a02 || b02) && (!a03 || b03) && (!a12 || b12) && (!a13 || b13) && (!a23 || b23)) = false → cntB a01 a02 a03 a12 a13 a23 < cntB b01 b02 b03 b12 b13 b23 := by decide +kernel
theorem cnt_le' : ∀ a01 a02 a03 a12 a13 a23 : Bool, ∀ b01 b02 b03 b12 b13 b23 : Bool,
    ((!b01 || a01) && (!b02 || a02) && (!b03 || a03) && (!b12 || a12) && (!b13 || a13) && (!b23 || a23)) = true → cntB a01 a02 a03 a12 a13 a23 ≤ cntB b01 b02 b03 b12 b13 b23 := by decide +kernel

structure EqB (e : Nat → Nat → Bool) : Prop where
  symm : ∀ n m, e n m = true → e m n = true
  trans : ∀ n m l, e n m = true → e m l = true → e n l = true
theorem EqB.tr3 {e : Nat → Nat → Bool} (h : EqB e) (i j k : Nat) : tri3 (e i j) (e j k) (e i k) = true := by
  have h1 := h.trans i j k
  have h2 := fun p => h.trans j i k (h.symm i j p)
  have h3 := fun p q => h.trans i k j p (h.symm j k q)
  cases e1 : e i j <;> cases e2 : e j k <;> cases e3 : e i k <;> simp_all [tri3]
theorem EqB.tr {e : Nat → Nat → Bool} (h : EqB e) : triB (e 0 1) (e 0 2) (e 0 3) (e 1 2) (e 1 3) (e 2 3) = true := by
  simp only [triB, h.tr3, Bool.and_self]
theorem imp_or {a b : Bool} (h : b = true → a = true) : (!b || a) = true := by cases a <;> cases b <;> simp_all
theorem cnt_le {e f : Nat → Nat → Bool} (h : ∀ n m, n < 4 → m < 4 → f n m = true → e n m = true) : cnt e ≤ cnt f := by
  refine cnt_le' _ _ _ _ _ _ _ _ _ _ _ _ ?_
  simp only [Bool.and_eq_true]
  refine ⟨⟨⟨⟨⟨imp_or ?_, imp_or ?_⟩, imp_or ?_⟩, imp_or ?_⟩, imp_or ?_⟩, imp_or ?_⟩ <;> exact h _ _ (by decide) (by decide)
theorem cnt_lt {e f : Nat → Nat → Bool} (he : EqB e) (hf : EqB f) (hr : ∀ n, e n n = true) (hr' : ∀ n, f n n = true) (h : ∀ n m, n < 4 → m < 4 → f n m = true → e n m = true) {n m : Nat} (hn : n < 4) (hm : m < 4) (h1 : e n m = true) (h2 : f n m = false) : cnt e < cnt f := by
  refine cnt_lt' _ _ _ _ _ _ he.tr _ _ _ _ _ _ hf.tr ?_ ?_
  · simp only [Bool.and_eq_true]
    refine ⟨⟨⟨⟨⟨imp_or ?_, imp_or ?_⟩, imp_or ?_⟩, imp_or ?_⟩, imp_or ?_⟩, imp_or ?_⟩ <;> exact h _ _ (by decide) (by decide)
  · have key : ∀ n m, n < m → m < 4 → e n m = true → f n m = false → ((!e 0 1 || f 0 1) && (!e 0 2 || f 0 2) && (!e 0 3 || f 0 3) && (!e 1 2 || f 1 2) && (!e 1 3 || f 1 3) && (!e 2 3 || f 2 3)) = false := fun n m hnm hm h1 h2 => by
      have : (n = 0 ∧ m = 1) ∨ (n = 0 ∧ m = 2) ∨ (n = 0 ∧ m = 3) ∨ (n = 1 ∧ m = 2) ∨ (n = 1 ∧ m = 3) ∨ (n = 2 ∧ m = 3) := by first | lia | omega
      rcases this with ⟨rfl, rfl⟩ | ⟨rfl, rfl⟩ | ⟨rfl, rfl⟩ | ⟨rfl, rfl⟩ | ⟨rfl, rfl⟩ | ⟨rfl, rfl⟩ <;> simp [h1, h2]
    by_cases hnm : n = m
    · subst hnm; rw [hr'] at h2; cases h2
    · by_cases hlt : n < m
      · exact key n m hlt hm h1 h2
      · refine key m n (by first | lia | omega) hn (he.symm _ _ h1) ?_
        cases q : f m n
        · rfl
        · rw [hf.symm _ _ q] at h2; cases h2
end Mine
namespace Mine
open PySem

theorem roads_all {s : List Nat} (hs : Bits s) (hl : s.length ≤ 3) : code s - 1 < 15 ∧ roads15.getD (code s - 1) [] = s := by
  match s, hl with
  | [], _ => exact ⟨by decide, rfl⟩
  | [a], _ =>
    have h1 : a < 2 := hs a (by simp)
    have : a = 0 ∨ a = 1 := or2 (by first | assumption | lia | omega)
    rcases this with rfl | rfl <;> exact ⟨by decide, rfl⟩
  | [a, b], _ =>
    have h1 : a < 2 := hs a (by simp)
    have h2 : b < 2 := hs b (by simp)
    have e1 : a = 0 ∨ a = 1 := by first | lia | omega
    have e2 : b = 0 ∨ b = 1 := by first | lia | omega
    rcases e1 with rfl | rfl <;> rcases e2 with rfl | rfl <;> exact ⟨by decide, rfl⟩
  | [a, b, c], _ =>
    have h1 : a < 2 := hs a (by simp)
    have h2 : b < 2 := hs b (by simp)
    have h3 : c < 2 := hs c (by simp)
    have e1 : a = 0 ∨ a = 1 := by first | lia | omega
    have e2 : b = 0 ∨ b = 1 := by first | lia | omega
    have e3 : c = 0 ∨ c = 1 := by first | lia | omega
    rcases e1 with rfl | rfl <;> rcases e2 with rfl | rfl <;> rcases e3 with rfl | rfl <;> exact ⟨by decide, rfl⟩
  | a :: b :: c :: d :: s, hl => simp at hl
theorem roads_bits : ∀ ds ∈ roads15, (∀ d ∈ ds, d < 2) ∧ ds.length ≤ 3 := by decide
theorem roads_code : ∀ k, k < 15 → code (roads15.getD k []) = k + 1 := by decide
theorem roads_mem {k : Nat} (h : k < 15) : roads15.getD k [] ∈ roads15 := by
  have : k < roads15.length := h
  simp [List.getD, List.getElem?_eq_getElem this]
theorem row_getD {br : Nat → List Int} {n k : Nat} (h : k < 15) : (rowL br n).getD k none = there br (256 + (n : Int)) (roads15.getD k []) := by
  have : k < roads15.length := h
  simp [rowL, List.getD, List.getElem?_map, List.getElem?_eq_getElem this]
theorem ag_row {br : Nat → List Int} {n m : Nat} : AgN br 3 n m ↔ rowL br n = rowL br m := by
  unfold rowL
  rw [List.map_inj_left]
  constructor
  · exact fun h ds hd => h ds (roads_bits ds hd).1 (roads_bits ds hd).2
  · intro h s hs hl
    obtain ⟨h1, h2⟩ := roads_all hs hl
    have := h _ (roads_mem h1)
    rwa [h2] at this
theorem len_cnt {br : Nat → List Int} : (unlikeL br).length = cnt fun m n => decide (rowL br m = rowL br n) := by
  unfold unlikeL cnt
  have : ∀ e : Nat → Nat → Bool, ((List.range 4).filter fun n => !((List.range n).any fun m => e m n)).length = 1 + (!e 0 1).toNat + (!e 0 2 && !e 1 2).toNat + (!e 0 3 && !e 1 3 && !e 2 3).toNat := fun e => by
    have h4 : List.range 4 = [0, 1, 2, 3] := rfl
    have h3 : List.range 3 = [0, 1, 2] := rfl
    have h2 : List.range 2 = [0, 1] := rfl
    have h1 : List.range 1 = [0] := rfl
    have h0 : List.range 0 = [] := rfl
    simp only [h4, List.filter_cons, h3, h2, h1, h0, List.any_cons, List.any_nil, Bool.or_false, List.filter_nil]
    cases e 0 1 <;> cases e 0 2 <;> cases e 1 2 <;> cases e 0 3 <;> cases e 1 3 <;> cases e 2 3 <;> rfl
  exact this fun m n => decide (rowL br m = rowL br n)

noncomputable def eK (br : Nat → List Int) (k : Nat) (n m : Nat) : Bool := @decide (AgN br k n m) (Classical.propDecidable _)
theorem eK_iff {br k n m} : eK br k n m = true ↔ AgN br k n m := by unfold eK; simp
theorem eK_eq {br k} : EqB (eK br k) := ⟨fun n m h => eK_iff.mpr (eK_iff.mp h).symm, fun n m l h g => eK_iff.mpr ((eK_iff.mp h).trans (eK_iff.mp g))⟩
theorem cnt_le4 (e : Nat → Nat → Bool) : cnt e ≤ 4 := by
  have h : ∀ b : Bool, b.toNat ≤ 1 := by decide
  have h1 := h (!e 0 1)
  have h2 := h (!e 0 2 && !e 1 2)
  have h3 := h (!e 0 3 && !e 1 3 && !e 2 3)
  unfold cnt
  first | lia | omega
theorem cnt_grow {br : Nat → List Int} (G : GOk br) {a b : Nat} (ha : a < 4) (hb : b < 4) {t : List Nat} (ht : Bits t) (hd : Diff br (256 + (a : Int)) (256 + (b : Int)) t) (hl : ∀ k, k < t.length → AgN br k a b) : ∀ k, k ≤ t.length → k + 1 ≤ cnt (eK br k)
  | 0, _ => by unfold cnt; first | lia | omega
  | k + 1, h => by
    have ih := cnt_grow G ha hb ht hd hl k (by first | lia | omega)
    have : ¬ ∀ n m, n < 4 → m < 4 → AgN br k n m → AgN br (k + 1) n m := fun hs => hd (AgN.stable G hs t ht a b ha hb (hl k (by first | lia | omega)))
    obtain ⟨n, m, hn, hm, h1, h2⟩ : ∃ n m, n < 4 ∧ m < 4 ∧ AgN br k n m ∧ ¬ AgN br (k + 1) n m := by
      apply Classical.byContradiction
      intro hc
      refine this fun n m hn hm h1 => Classical.byContradiction fun h2 => hc ⟨n, m, hn, hm, h1, h2⟩
    have := cnt_lt (e := eK br k) (f := eK br (k + 1)) eK_eq eK_eq (fun n => eK_iff.mpr .refl) (fun n => eK_iff.mpr .refl) (fun n m _ _ h => eK_iff.mpr ((eK_iff.mp h).less (Nat.le_succ _))) hn hm (eK_iff.mpr h1) (by
      cases q : eK br (k + 1) n m
      · rfl
      · exact absurd (eK_iff.mp q) h2)
    first | lia | omega
/-- Moore -/
theorem least_short {br : Nat → List Int} (G : GOk br) {a b : Nat} (ha : a < 4) (hb : b < 4) {t : List Nat} (ht : Bits t) (hd : Diff br (256 + (a : Int)) (256 + (b : Int)) t) (hl : ∀ s, Bits s → Diff br (256 + (a : Int)) (256 + (b : Int)) s → code t ≤ code s) : t.length ≤ 3 ∧ t.length < (unlikeL br).length := by
  have h1 := cnt_grow G ha hb ht hd (fun k hk s hs hsl => Classical.byContradiction fun hc => by
    have := hl s hs hc
    have := code_short hs ht (by first | lia | omega : s.length < t.length)
    first | lia | omega) t.length (Nat.le_refl _)
  have h2 := cnt_le4 (eK br t.length)
  have h3 : t.length ≤ 3 := by first | lia | omega
  have h4 : cnt (eK br t.length) ≤ cnt (eK br 3) := cnt_le fun n m _ _ h => eK_iff.mpr ((eK_iff.mp h).less h3)
  have h5 : eK br 3 = fun m n => decide (rowL br m = rowL br n) := by
    funext m n
    rw [Bool.eq_iff_iff, eK_iff, ag_row]
    simp
  rw [h5, ← len_cnt] at h4
  exact ⟨h3, by first | lia | omega⟩
theorem pk_iff {br : Nat → List Int} {q : Nat × Nat} {k : Nat} (hk : k < 15) : pk br q k = true ↔ (roads15.getD k []).length < (unlikeL br).length ∧ Diff br (256 + (q.1 : Int)) (256 + (q.2 : Int)) (roads15.getD k []) := by
  unfold pk Diff
  rw [row_getD hk, row_getD hk]
  simp
theorem due_none {br : Nat → List Int} {q : Nat × Nat} (h : ∀ t, Bits t → ¬ Diff br (256 + (q.1 : Int)) (256 + (q.2 : Int)) t) : due br q = none := by
  unfold due
  have : (List.range 15).find? (pk br q) = none := by
    rw [List.find?_eq_none]
    intro k hk hp
    have hk := List.mem_range.mp hk
    exact h _ (roads_bits _ (roads_mem hk)).1 ((pk_iff hk).mp hp).2
  rw [this]; rfl
theorem due_some {br : Nat → List Int} (G : GOk br) {q : Nat × Nat} (hq : q.1 < 4 ∧ q.2 < 4) {t : List Nat} (ht : Bits t) (hd : Diff br (256 + (q.1 : Int)) (256 + (q.2 : Int)) t) (hl : ∀ s, Bits s → Diff br (256 + (q.1 : Int)) (256 + (q.2 : Int)) s → code t ≤ code s) : due br q = some t := by
  obtain ⟨h1, h2⟩ := least_short G hq.1 hq.2 ht hd hl
  obtain ⟨h3, h4⟩ := roads_all ht h1
  unfold due
  have : (List.range 15).find? (pk br q) = some (code t - 1) := by
    rw [List.find?_range_eq_some]
    refine ⟨(pk_iff h3).mpr ⟨by rw [h4]; exact h2, by rw [h4]; exact hd⟩, List.mem_range.mpr h3, fun j hj => ?_⟩
    have hj15 : j < 15 := by first | lia | omega
    cases hp : pk br q j
    · rfl
    · have h5 := hl _ (roads_bits _ (roads_mem hj15)).1 ((pk_iff hj15).mp hp).2
      rw [roads_code j hj15] at h5
      first | lia | omega
  rw [this, Option.map_some, h4]
end Mine
namespace Mine
open PySem PyProof.Rows

noncomputable abbrev scL : Scope := (defP 64).scope
noncomputable def lawSt (i : Nat) : Stmt := stAt (bodyOf (defAt pw 64)) i

theorem clip_nat (k n : Nat) : max (0 : Int) (min (if (k : Int) < 0 then (k : Int) + n else k) n) = ((min k n : Nat) : Int) := by
  rw [if_neg (Int.not_lt.mpr (Int.natCast_nonneg k))]; first | lia | omega
theorem pick_at {α : Type} (xs : List α) (a b : Nat) : (sliceRange (a : Int) (b : Int) 1).filterMap (xs.toArray[·]?) = (xs.drop a).take (b - a) := by rw [sliceRange_one, pick_run]
theorem cut_to {α : Type} (xs : List α) (k : Nat) : cutL xs none (some (k : Int)) = xs.take k := by
  show (sliceRange ((0 : Nat) : Int) (max 0 (min (if (k : Int) < 0 then (k : Int) + xs.length else k) xs.length)) 1).filterMap (xs.toArray[·]?) = _
  rw [clip_nat, pick_at, List.drop_zero, Nat.sub_zero, List.take_eq_take_iff]
  first | lia | omega
theorem cut_from {α : Type} (xs : List α) (k : Nat) : cutL xs (some (k : Int)) none = xs.drop k := by
  show (sliceRange (max 0 (min (if (k : Int) < 0 then (k : Int) + xs.length else k) xs.length)) ((xs.length : Nat) : Int) 1).filterMap (xs.toArray[·]?) = _
  rw [clip_nat, pick_at, List.take_of_length_le (Nat.le_of_eq List.length_drop)]
  by_cases hk : k ≤ xs.length
  · rw [Nat.min_eq_left hk]
  · rw [Nat.min_eq_right (Nat.le_of_not_le hk), List.drop_length, List.drop_eq_nil_of_le (Nat.le_of_not_le hk)]

section
variable {c : Cfg} {Φ : Fns} {csc : Scope} {m : Fm} {σ : Sto} {p : Pos} {x : Str} {elt : Expr} {v : AV} {xs : List AV}
theorem comp_map (f : List AV) (hx : ∀ v, setv csc m x v = some (m.set x v)) (hfr : (m x).isNone = true) (hv : items? σ v = some xs) (hlen : xs.length ≤ 1000) (hl : f.length = xs.length)
    (he : ∀ i (h : i < xs.length), ev c Φ elt csc (m.set x xs[i]) σ = some (f[i], σ)) {P : Acc × Sto → Prop} (hP : P (⟨.ki [], f⟩, σ)) : Sat (compA csc (.val v) (.Name x p) m (trs c Φ [] csc) (gens c Φ (emitL (ev c Φ elt csc)) [] csc) ⟨.ki [], []⟩ σ) P := by
  refine compA_inv (xs := xs) (I := fun i b => b = (⟨.ki [], f.take i⟩, σ)) ⟨rfl, hfr⟩ (by simp) (fun i b h => by rw [h]; exact hv) (fun b h => ?_) (fun i b hi h => ?_)
  · rw [h, ← hl, List.take_length]; exact hP
  · subst h
    refine .eq (a := m.set x xs[i]) (by show setv csc m x xs[i] = _; exact hx _) (t_trs0 ?_)
    rw [if_pos rfl]
    refine q_gens0 (q_emitL (.eq (he i hi) ⟨?_, ?_⟩))
    · simp; first | lia | omega
    · rw [List.take_add_one, List.getElem?_eq_getElem (by first | lia | omega)]; rfl
end

theorem mkL_f {p : Pos} {xs : List AV} {σ : Sto} (h : cfgP.mu p = false) : mkL cfgP p xs σ = (.list xs, σ) := by unfold mkL; rw [h]; rfl

/-- the script's numbers -/
noncomputable def numsOf (zs : List Int) : List Int := (zs.take 5 ++ ([1, 72, 96, 52, 72] : List Int).drop (zs.take 5).length).map fun x => x.fmod 1000000
theorem numsOf_len {zs : List Int} : (numsOf zs).length = 5 := by simp [numsOf]; first | lia | omega
theorem numsOf_bd {zs : List Int} : ∀ n ∈ numsOf zs, 0 ≤ n ∧ n < 1000000 := fun n hn => by
  obtain ⟨x, _, rfl⟩ := List.mem_map.mp hn
  exact ⟨Int.fmod_nonneg_of_pos _ (by decide), Int.fmod_lt_of_pos _ (by decide)⟩

theorem law_numbers {Φ : Fns} {m : Fm} {σ : Sto} {zs : List Int} (h1 : m "script" = some (.list (zs.map AV.int))) (hlen : zs.length ≤ 63) {P : Fl × Fm × Sto → Prop} (hP : P (.next, m.set "numbers" (.list ((numsOf zs).map AV.int)), σ)) : Sat (ex cfgP Φ (lawSt 0) scL m σ) P := by
  have hsl : ∀ {p : Pos} {σ : Sto}, cfgP.mu p = false → sliceA cfgP p σ (.list (zs.map AV.int)) none (some 5) = some (.list ((zs.take 5).map AV.int), σ) := fun {p σ} h => by
    show some (mkL cfgP p (cutL (zs.map AV.int) none (some ((5 : Nat) : Int))) σ) = _
    rw [cut_to, mkL_f h, List.map_take]
  have hl5 : (zs.take 5).length ≤ 5 := by simp; first | lia | omega
  refine x_assign rfl (by kernel_rfl) <| q_listcomp (by kernel_rfl) <| q_src rfl <| q_bin <| q_slice <| q_name (Eq.trans (b := m "script") (by kernel_rfl) h1) <| q_none <| q_some <| .eq rfl <| .eq rfl <| .eq rfl <| .eq (hsl (by kernel_rfl)) ?_
  refine q_slice <| .eq (a := (.list (([1, 72, 96, 52, 72] : List Int).map AV.int), σ)) (by kernel_rfl) <| q_some <| q_call rfl (g := .bi .len) (by kernel_rfl) <| q_cons <| q_slice <| q_name (Eq.trans (b := m "script") (by kernel_rfl) h1) <| q_none <| q_some <| .eq rfl <| .eq rfl <| .eq rfl <| .eq (hsl (by kernel_rfl)) <| q_nil ?_
  refine .eq (a := (.int (zs.take 5).length, σ)) ?_ <| q_none <| .eq rfl <| .eq rfl <| .eq (a := (.list ((([1, 72, 96, 52, 72] : List Int).drop (zs.take 5).length).map AV.int), σ)) ?_ <| .eq (a := (.list ((zs.take 5 ++ ([1, 72, 96, 52, 72] : List Int).drop (zs.take 5).length).map AV.int), σ)) ?_ ?_
  · show some (AV.int ((zs.take 5).map AV.int).length, σ) = _
    rw [List.length_map]
  · show some (mkL cfgP _ (cutL (([1, 72, 96, 52, 72] : List Int).map AV.int) (some (((zs.take 5).length : Nat) : Int)) none) σ) = _
    rw [cut_from, mkL_f (by kernel_rfl), List.map_drop]
  · show (if ((zs.take 5).map AV.int).length + ((([1, 72, 96, 52, 72] : List Int).drop (zs.take 5).length).map AV.int).length ≤ 2 ^ 20 then some (mkL cfgP _ ((zs.take 5).map AV.int ++ (([1, 72, 96, 52, 72] : List Int).drop (zs.take 5).length).map AV.int) σ) else none) = _
    rw [if_pos (by simp; first | lia | omega), mkL_f (by kernel_rfl), List.map_append]
  · have e : numsOf zs = (zs.take 5 ++ ([1, 72, 96, 52, 72] : List Int).drop (zs.take 5).length).map fun x => x.fmod 1000000 := rfl
    have hl : (zs.take 5 ++ ([1, 72, 96, 52, 72] : List Int).drop (zs.take 5).length).length ≤ 1000 := by simp; first | lia | omega
    rw [e] at hP
    generalize zs.take 5 ++ ([1, 72, 96, 52, 72] : List Int).drop (zs.take 5).length = L at *
    refine comp_map (xs := L.map AV.int) ((L.map fun x : Int => Int.fmod x 1000000).map AV.int) (fun v => by kernel_rfl) (by kernel_rfl) rfl (by simpa using hl) (by simp) (fun i hi => ?_) hP
    simp only [List.getElem_map]
    generalize L[i]'(by simpa using hi) = z
    kernel_rfl
end Mine
namespace Mine
open PySem PyProof.Rows

section
variable {c : Cfg} {Φ : Fns} {sc csc : Scope} {m : Fm} {σ : Sto}
theorem q_srcCall {f : Str} {g : AV} {a b : Expr} {p q : Pos} {w : Fm → Sto → Option (AV × Sto)} {Q : Src × Sto → Prop} (hg : look c sc m f = some g) (h : Sat (ev c Φ a sc m σ) fun x => Sat (ev c Φ b sc m x.2) fun y => Sat (srcCall c Φ p g x.1 y.1 y.2) Q) :
    Sat (evSrc c Φ (.Call (.Name f q) [a, b] [] p) w sc m σ) Q := by
  exact Sat.bind (.eq hg (.bind (h.mono fun x h => .bind h)))
theorem zipA_eq (xs ys : List AV) : zipA xs ys = (xs.zip ys).map fun z => .tuple [z.1, z.2] := by
  induction xs generalizing ys with
  | nil => rfl
  | cons x xs ih =>
    cases ys with
    | nil => rfl
    | cons y ys => exact congrArg (AV.tuple [x, y] :: ·) (ih ys)
theorem take_snoc {α : Type} {l : List α} {i : Nat} (h : i < l.length) : l.take (i + 1) = l.take i ++ [l[i]] := by
  rw [List.take_add_one, List.getElem?_eq_getElem h]; rfl
theorem not_mem_take {α : Type} {l : List α} (h : l.Nodup) {i : Nat} (hi : i < l.length) : l[i] ∉ l.take i := fun hm => by
  obtain ⟨j, hj, e⟩ := List.mem_take_iff_getElem.mp hm
  exact List.pairwise_iff_getElem.mp h j i (by first | lia | omega) hi (by first | lia | omega) e
theorem comp_dict {K : Type} [DecidableEq K] (mk : List K → Keys) (tk : K → AV) (hset : ∀ k v l vs, setKey (tk k) v (mk l) vs = if l.length < 2 ^ 20 then some (if k ∈ l then (mk l, repl k v l vs) else (mk (l ++ [k]), vs ++ [v])) else none)
    {x y : Str} {px py pt q1 q2 : Pos} {k : Nat} (ks : List K) (vs : List AV) (hnd : ks.Nodup) (hl : vs.length = ks.length) (hlen : ks.length ≤ 1000) (hx : ∀ m v, setv csc m x v = some (m.set x v)) (hy : ∀ m v, setv csc m y v = some (m.set y v)) (hfr : (m x).isNone = true ∧ (m y).isNone = true)
    (h1 : ∀ a b, look c csc ((m.set x a).set y b) x = some a) (h2 : ∀ a b, look c csc ((m.set x a).set y b) y = some b) {P : Acc × Sto → Prop} (hP : P (⟨mk ks, vs⟩, σ)) :
    Sat (compA csc (.pairs (zipA (ks.map tk) vs)) (.Tuple [.Name x px, .Name y py] k pt) m (trs c Φ [] csc) (gens c Φ (emitD (ev c Φ (.Name x q1) csc) (ev c Φ (.Name y q2) csc)) [] csc) ⟨mk [], []⟩ σ) P := by
  have hz : (zipA (ks.map tk) vs).length = ks.length := by rw [zipA_eq, List.length_map, List.length_zip, List.length_map, hl, Nat.min_self]
  refine compA_inv (xs := zipA (ks.map tk) vs) (I := fun i b => b = (⟨mk (ks.take i), vs.take i⟩, σ)) ⟨rfl, Bool.and_eq_true_iff.mpr ⟨hfr.1, Bool.and_eq_true_iff.mpr ⟨hfr.2, rfl⟩⟩⟩ (by rw [List.take_zero, List.take_zero]) (fun i b h => rfl) (fun b h => ?_) (fun i b hi h => ?_)
  · have e1 : vs.take ks.length = vs := by rw [← hl, List.take_length]
    rw [h, hz, List.take_length, e1]; exact hP
  · subst h
    rw [hz] at hi
    have hi' : i < vs.length := hl ▸ hi
    have e : (zipA (ks.map tk) vs)[i]'(hz.symm ▸ hi) = .tuple [tk ks[i], vs[i]] := by simp [zipA_eq]
    rw [e]
    refine .eq (a := (m.set x (tk ks[i])).set y vs[i]) (by show (setv csc m x _).bind (fun m => (setv csc m y _).bind fun m => some m) = _; rw [hx]; show (setv csc _ y _).bind _ = _; rw [hy]; rfl) (t_trs0 ?_)
    rw [if_pos rfl]
    refine q_gens0 (q_emitD (q_name (h1 _ _) (q_name (h2 _ _) (.eq (a := (mk (ks.take (i + 1)), vs.take (i + 1))) ?_ rfl))))
    rw [hset, if_pos (Nat.lt_of_le_of_lt (Nat.le_trans (List.length_take_le _ _) (Nat.le_of_lt hi)) (Nat.lt_of_le_of_lt hlen (by decide))), if_neg (not_mem_take hnd hi), take_snoc hi, take_snoc hi']
theorem comp_dictS {x y : Str} {px py pt q1 q2 : Pos} {k : Nat} (ks : List Str) (vs : List AV) (hnd : ks.Nodup) (hl : vs.length = ks.length) (hlen : ks.length ≤ 1000) (hx : ∀ m v, setv csc m x v = some (m.set x v)) (hy : ∀ m v, setv csc m y v = some (m.set y v)) (hfr : (m x).isNone = true ∧ (m y).isNone = true)
    (h1 : ∀ a b, look c csc ((m.set x a).set y b) x = some a) (h2 : ∀ a b, look c csc ((m.set x a).set y b) y = some b) {P : Acc × Sto → Prop} (hP : P (⟨.ks ks, vs⟩, σ)) :
    Sat (compA csc (.pairs (zipA (ks.map AV.str) vs)) (.Tuple [.Name x px, .Name y py] k pt) m (trs c Φ [] csc) (gens c Φ (emitD (ev c Φ (.Name x q1) csc) (ev c Φ (.Name y q2) csc)) [] csc) ⟨.ks [], []⟩ σ) P :=
  comp_dict Keys.ks AV.str (fun _ _ _ _ => rfl) ks vs hnd hl hlen hx hy hfr h1 h2 hP
theorem comp_dictI {x y : Str} {px py pt q1 q2 : Pos} {k : Nat} (ks : List Int) (vs : List AV) (hnd : ks.Nodup) (hl : vs.length = ks.length) (hlen : ks.length ≤ 1000) (hx : ∀ m v, setv csc m x v = some (m.set x v)) (hy : ∀ m v, setv csc m y v = some (m.set y v)) (hfr : (m x).isNone = true ∧ (m y).isNone = true)
    (h1 : ∀ a b, look c csc ((m.set x a).set y b) x = some a) (h2 : ∀ a b, look c csc ((m.set x a).set y b) y = some b) {P : Acc × Sto → Prop} (hP : P (⟨.ki ks, vs⟩, σ)) :
    Sat (compA csc (.pairs (zipA (ks.map AV.int) vs)) (.Tuple [.Name x px, .Name y py] k pt) m (trs c Φ [] csc) (gens c Φ (emitD (ev c Φ (.Name x q1) csc) (ev c Φ (.Name y q2) csc)) [] csc) ⟨.ki [], []⟩ σ) P :=
  comp_dict Keys.ki AV.int (fun _ _ _ _ => rfl) ks vs hnd hl hlen hx hy hfr h1 h2 hP
end

/-- the letter x stands for one of these -/
noncomputable def othersL : List Nat := (List.range 6).map (· + 1) ++ (List.range 201).map (· + 55)
noncomputable abbrev OthOk (o : Nat) : Prop := (1 ≤ o ∧ o ≤ 6) ∨ (55 ≤ o ∧ o ≤ 255)
theorem othersL_ok : ∀ o ∈ othersL, OthOk o := by decide +kernel
noncomputable def n5 (n0 n1 n2 n3 n4 : Int) : AV := .list [.int n0, .int n1, .int n2, .int n3, .int n4]
theorem fmod_nat (n : Int) (k : Nat) (hk : 0 < k) : ∃ i : Nat, i < k ∧ n.fmod (k : Int) = (i : Int) := by
  have h1 := Int.fmod_nonneg_of_pos n (b := (k : Int)) (by first | lia | omega)
  have h2 := Int.fmod_lt_of_pos n (b := (k : Int)) (by first | lia | omega)
  exact ⟨(n.fmod k).toNat, by first | lia | omega, by first | lia | omega⟩

theorem law_other {Φ : Fns} {m : Fm} {σ : Sto} {n0 n1 n2 n3 n4 : Int} (h1 : m "numbers" = some (n5 n0 n1 n2 n3 n4)) {P : Fl × Fm × Sto → Prop} (hP : ∀ o : Nat, OthOk o → P (.next, m.set "other" (.int (o : Nat)), σ)) : Sat (ex cfgP Φ (lawSt 1) scL m σ) P := by
  obtain ⟨i, hi, ei⟩ := fmod_nat n0 207 (by decide)
  have hl : i < othersL.length := hi
  refine x_assign rfl (by kernel_rfl) <| q_sub rfl <| .eq (a := (.list (othersL.map fun (o : Nat) => AV.int (o : Nat)), σ)) (by kernel_rfl) <| q_bin <| q_sub rfl <| q_name (Eq.trans (b := m "numbers") (by kernel_rfl) h1) <| .eq rfl <| .eq (a := .int n0) rfl <| .eq rfl <|
    .eq (a := (.int (i : Nat), σ)) ?_ <| .eq (a := .int (othersL[i] : Nat)) ?_ <| hP _ (othersL_ok _ (List.getElem_mem hl))
  · show some (AV.int (n0.fmod 207), σ) = _
    rw [show n0.fmod 207 = (i : Int) from ei]
  · refine getA_list ?_
    rw [List.getElem?_map, List.getElem?_eq_getElem hl]
    rfl

theorem law_signs {Φ : Fns} {m : Fm} {σ : Sto} {P : Fl × Fm × Sto → Prop} (hP : P (.next, m.set "signs" (.list (signs48.map AV.str)), σ)) : Sat (ex cfgP Φ (lawSt 2) scL m σ) P :=
  x_assign rfl (by kernel_rfl) (.eq (a := (.list (signs48.map AV.str), σ)) (by kernel_rfl) hP)

noncomputable def namesI (i : Nat) : List Str := ((names6 ++ names6).drop i).take 4
theorem law_names {Φ : Fns} {m : Fm} {σ : Sto} {n0 n1 n2 n3 n4 : Int} (h1 : m "numbers" = some (n5 n0 n1 n2 n3 n4)) {P : Fl × Fm × Sto → Prop} (hP : ∀ i : Nat, i < 6 → P (.next, m.set "names" (.list ((namesI i).map AV.str)), σ)) : Sat (ex cfgP Φ (lawSt 3) scL m σ) P := by
  obtain ⟨i, hi, ei⟩ := fmod_nat (n0.fdiv 2352) 6 (by decide)
  refine x_assign rfl (by kernel_rfl) <| q_slice <| q_slice <| .eq (a := (.list ((names6 ++ names6).map AV.str), σ)) (by kernel_rfl) <| q_some <| q_bin <| q_bin <| q_sub rfl <| q_name (Eq.trans (b := m "numbers") (by kernel_rfl) h1) <| .eq rfl <| .eq (a := .int n0) rfl <| .eq rfl <|
    .eq (a := (.int (n0.fdiv 2352), σ)) rfl <| .eq rfl <| .eq (a := (.int (i : Nat), σ)) ?_ <| q_none <| .eq rfl <| .eq rfl <| .eq (a := (.list (((names6 ++ names6).drop i).map AV.str), σ)) ?_ <| q_none <| q_some <| .eq rfl <| .eq rfl <| .eq rfl <| .eq (a := (.list ((namesI i).map AV.str), σ)) ?_ <| hP i hi
  · show some (AV.int ((n0.fdiv 2352).fmod 6), σ) = _
    rw [show (n0.fdiv 2352).fmod 6 = (i : Int) from ei]
  · show some (mkL cfgP _ (cutL _ (some (i : Int)) none) σ) = _
    rw [cut_from, mkL_f (by kernel_rfl), List.map_drop]
  · show some (mkL cfgP _ (cutL _ none (some ((4 : Nat) : Int))) σ) = _
    rw [cut_to, mkL_f (by kernel_rfl), namesI, List.map_take]

noncomputable def kindsO (o : Nat) : List Int := (o : Int) :: (List.range 48).map fun (i : Nat) => 7 + (i : Int)
theorem law_kinds {Φ : Fns} {m : Fm} {σ : Sto} {n0 n1 n2 n3 n4 : Int} {o : Nat} (h1 : m "numbers" = some (n5 n0 n1 n2 n3 n4)) (h2 : m "other" = some (.int (o : Nat))) {P : Fl × Fm × Sto → Prop}
    (hP : ∀ f : Nat, f < 49 → P (.next, (m.set "kinds" (.list ((kindsO o).map AV.int))).set "first" (.int (f : Nat)), σ)) : Sat (ex cfgP Φ (lawSt 4) scL m σ) P := by
  obtain ⟨i, hi, ei⟩ := fmod_nat n0 49 (by decide)
  refine x_assignT (by kernel_rfl) <| q_tuple (by decide) <| q_cons <| q_bin <| q_list (by decide) <| q_cons <| q_name (Eq.trans (b := m "other") (by kernel_rfl) h2) <| q_nil <| .eq (a := (.list ((List.range 48).map fun (i : Nat) => AV.int (7 + (i : Int))), σ)) (by kernel_rfl) <|
    .eq (a := (.list ((kindsO o).map AV.int), σ)) (by kernel_rfl) <| q_cons <| q_bin <| q_sub rfl <| q_name (Eq.trans (b := m "numbers") (by kernel_rfl) h1) <| .eq rfl <| .eq (a := .int n0) rfl <| .eq rfl <| .eq (a := (.int (i : Nat), σ)) ?_ <| q_nil <| .eq (by kernel_rfl) <| hP i hi
  show some (AV.int (n0.fmod 49), σ) = _
  rw [show n0.fmod 49 = (i : Int) from ei]
end Mine
namespace Mine
open PySem PyProof.Rows

theorem add_lists {p : Pos} {xs ys : List AV} {σ : Sto} (h : cfgP.mu p = false) (hl : xs.length + ys.length ≤ 2 ^ 20) : binA cfgP p .Add (.list xs) (.list ys) σ = some (.list (xs ++ ys), σ) := by
  show (if xs.length + ys.length ≤ 2 ^ 20 then some (mkL cfgP p (xs ++ ys) σ) else none) = _
  rw [if_pos hl, mkL_f h]
theorem lk_get {K α : Type} [DecidableEq K] (ks : List K) (vs : List α) (hn : ks.Nodup) (k : Nat) (h : k < ks.length) : lk ks[k] ks vs = vs[k]? := by
  induction ks generalizing vs k with
  | nil => exact absurd h (Nat.not_lt_zero _)
  | cons x xs ih =>
    cases vs with
    | nil => rfl
    | cons v vs =>
      have hn' := List.nodup_cons.mp hn
      cases k with
      | zero => exact if_pos rfl
      | succ k =>
        have hk := Nat.lt_of_succ_lt_succ h
        exact (if_neg fun (e : x = xs[k]) => hn'.1 (by rw [e]; exact List.getElem_mem _)).trans (ih vs hn'.2 k hk)

noncomputable def namesIs (i : Nat) : List Str := (["", "x"] : List Str) ++ namesI i
noncomputable def toldA (i o : Nat) : AV := .dict (.ks (namesIs i)) (([0, (o : Int), 256, 257, 258, 259] : List Int).map AV.int)
noncomputable def symsO (o : Nat) : List Int := [0] ++ kindsO o ++ [256, 257, 258, 259]
noncomputable def wordsI (i : Nat) : List Str := (["", "x"] : List Str) ++ signs48 ++ namesI i
noncomputable def writtenA (i o : Nat) : AV := .dict (.ki (symsO o)) ((wordsI i).map AV.str)
theorem six {i : Nat} (h : i < 6) : i = 0 ∨ i = 1 ∨ i = 2 ∨ i = 3 ∨ i = 4 ∨ i = 5 := (or7 (Nat.lt_succ_of_lt h)).imp id (·.imp id (·.imp id (·.imp id (·.imp id (·.elim id fun e => absurd (e ▸ h) (Nat.lt_irrefl _))))))
theorem namesI_len {i : Nat} (h : i < 6) : (namesI i).length = 4 := by rcases six h with rfl | rfl | rfl | rfl | rfl | rfl <;> rfl
theorem namesIs_nodup {i : Nat} (h : i < 6) : (namesIs i).Nodup := by rcases six h with rfl | rfl | rfl | rfl | rfl | rfl <;> decide +kernel
theorem signs48_len : signs48.length = 48 := by kernel_rfl
theorem wordsI_len {i : Nat} (h : i < 6) : (wordsI i).length = 54 := by simp [wordsI, namesI_len h, signs48_len]
theorem symsO_len {o : Nat} : (symsO o).length = 54 := by simp [symsO, kindsO]
theorem kinds_mem {o : Nat} {s : Int} : s ∈ kindsO o ↔ s = (o : Int) ∨ (7 ≤ s ∧ s < 55) := by
  simp only [kindsO, List.mem_cons, List.mem_map, List.mem_range]
  constructor
  · rintro (h | ⟨j, h1, h2⟩)
    · exact .inl h
    · first | lia | omega
  · rintro (h | ⟨h1, h2⟩)
    · exact .inl h
    · exact .inr ⟨(s - 7).toNat, by first | lia | omega, by first | lia | omega⟩
theorem syms_mem {o : Nat} {s : Int} : s ∈ symsO o ↔ s = 0 ∨ s ∈ kindsO o ∨ (256 ≤ s ∧ s < 260) := by
  simp only [symsO, List.mem_append, List.mem_cons, List.not_mem_nil, or_false]
  constructor
  · rintro ((h | h) | h)
    · exact .inl h
    · exact .inr (.inl h)
    · exact .inr (.inr (by first | lia | omega))
  · rintro (h | h | h)
    · exact .inl (.inl h)
    · exact .inl (.inr h)
    · exact .inr (by first | lia | omega)
theorem range_nodup (n a : Nat) : ((List.range n).map fun (i : Nat) => (a : Int) + (i : Int)).Nodup := by
  refine List.pairwise_map.mpr (List.Pairwise.imp (fun {x y} h => ?_) (List.pairwise_lt_range (n := n)))
  first | lia | omega
theorem symsO_nodup {o : Nat} (h : OthOk o) : (symsO o).Nodup := by
  unfold OthOk at h
  show (0 :: (o : Int) :: (((List.range 48).map fun (i : Nat) => 7 + (i : Int)) ++ [256, 257, 258, 259])).Nodup
  have hm : ∀ x : Int, x ∈ ((List.range 48).map fun (i : Nat) => 7 + (i : Int)) ++ [256, 257, 258, 259] → (7 ≤ x ∧ x < 55) ∨ 256 ≤ x := fun x hx => by
    simp only [List.mem_append, List.mem_map, List.mem_range, List.mem_cons, List.not_mem_nil, or_false] at hx
    rcases hx with ⟨j, h1, h2⟩ | hx <;> first | lia | omega
  refine List.nodup_cons.mpr ⟨fun hx => ?_, List.nodup_cons.mpr ⟨fun hx => ?_, List.nodup_append.mpr ⟨range_nodup 48 7, by decide, fun a ha b hb => ?_⟩⟩⟩
  · rcases List.mem_cons.mp hx with hx | hx
    · first | lia | omega
    · have := hm _ hx; first | lia | omega
  · have := hm _ hx; first | lia | omega
  · simp only [List.mem_map, List.mem_range] at ha
    obtain ⟨j, h1, h2⟩ := ha
    simp only [List.mem_cons, List.not_mem_nil, or_false] at hb
    first | lia | omega

theorem law_told {Φ : Fns} {m : Fm} {σ : Sto} {i o : Nat} (hi : i < 6) (h1 : m "names" = some (.list ((namesI i).map AV.str))) (h2 : m "other" = some (.int (o : Nat))) {P : Fl × Fm × Sto → Prop} (hP : P (.next, m.set "told" (toldA i o), σ)) : Sat (ex cfgP Φ (lawSt 5) scL m σ) P := by
  refine x_assign rfl (by kernel_rfl) <| q_dictcomp (by kernel_rfl) <| q_srcCall (g := .bi .zip) (by kernel_rfl) <| q_bin <| .eq (a := (.list ((["", "x"] : List Str).map AV.str), σ)) (by kernel_rfl) <| q_name (Eq.trans (b := m "names") (by kernel_rfl) h1) <|
    .eq (add_lists (by kernel_rfl) (by simp [namesI_len hi])) <| q_list (by decide) <| q_cons <| .eq rfl <| q_cons <| q_name (Eq.trans (b := m "other") (by kernel_rfl) h2) <| q_cons <| .eq rfl <| q_cons <| .eq rfl <| q_cons <| .eq rfl <| q_cons <| .eq rfl <| q_nil <| .eq rfl ?_
  simp only
  rw [← List.map_append]
  exact comp_dictS (namesIs i) (([0, (o : Int), 256, 257, 258, 259] : List Int).map AV.int) (namesIs_nodup hi) (by simp [namesIs, namesI_len hi]) (by simp [namesIs, namesI_len hi]) (fun m v => by kernel_rfl) (fun m v => by kernel_rfl) ⟨by kernel_rfl, by kernel_rfl⟩ (fun a b => by kernel_rfl) (fun a b => by kernel_rfl) hP

theorem law_writ {Φ : Fns} {m : Fm} {σ : Sto} {i o : Nat} (hi : i < 6) (ho : OthOk o) (h1 : m "names" = some (.list ((namesI i).map AV.str))) (h2 : m "kinds" = some (.list ((kindsO o).map AV.int))) (h3 : m "signs" = some (.list (signs48.map AV.str))) {P : Fl × Fm × Sto → Prop}
    (hP : P (.next, m.set "written" (writtenA i o), σ)) : Sat (ex cfgP Φ (lawSt 6) scL m σ) P := by
  refine x_assign rfl (by kernel_rfl) <| q_dictcomp (by kernel_rfl) <| q_srcCall (g := .bi .zip) (by kernel_rfl) <| q_bin <| q_bin <| .eq (a := (.list (([0] : List Int).map AV.int), σ)) (by kernel_rfl) <| q_name (Eq.trans (b := m "kinds") (by kernel_rfl) h2) <|
    .eq (add_lists (by kernel_rfl) (by simp [kindsO])) <| .eq (a := (.list (([256, 257, 258, 259] : List Int).map AV.int), σ)) (by kernel_rfl) <| .eq (add_lists (by kernel_rfl) (by simp [kindsO])) <|
    q_bin <| q_bin <| .eq (a := (.list ((["", "x"] : List Str).map AV.str), σ)) (by kernel_rfl) <| q_name (Eq.trans (b := m "signs") (by kernel_rfl) h3) <| .eq (add_lists (by kernel_rfl) (by simp [signs48_len])) <|
    q_name (Eq.trans (b := m "names") (by kernel_rfl) h1) <| .eq (add_lists (by kernel_rfl) (by simp [signs48_len, namesI_len hi])) <| .eq rfl ?_
  simp only
  rw [← List.map_append, ← List.map_append, ← List.map_append, ← List.map_append]
  exact comp_dictI (symsO o) ((wordsI i).map AV.str) (symsO_nodup ho) (by rw [List.length_map, wordsI_len hi, symsO_len]) (by rw [symsO_len]; decide) (fun m v => by kernel_rfl) (fun m v => by kernel_rfl) ⟨by kernel_rfl, by kernel_rfl⟩ (fun a b => by kernel_rfl) (fun a b => by kernel_rfl) hP

theorem law_symbols {Φ : Fns} {m : Fm} {σ : Sto} {n0 n1 n2 n3 n4 : Int} {f o : Nat} (hf : f < 49) (h1 : m "numbers" = some (n5 n0 n1 n2 n3 n4)) (h2 : m "kinds" = some (.list ((kindsO o).map AV.int))) (h3 : m "first" = some (.int (f : Nat))) {P : Fl × Fm × Sto → Prop}
    (hP : ∀ a b, a ∈ kindsO o → b ∈ kindsO o → P (.next, m.set "symbols" (.list (([a, b, 256, 257, 258, 259] : List Int).map AV.int)), σ)) : Sat (ex cfgP Φ (lawSt 7) scL m σ) P := by
  obtain ⟨j, hj, ej⟩ := fmod_nat ((f : Int) + 1 + (n0.fdiv 49).fmod 48) 49 (by decide)
  have hl : (kindsO o).length = 49 := by simp [kindsO]
  have hat : ∀ {σ : Sto} (j : Nat) (h : j < (kindsO o).length), getA σ (.list ((kindsO o).map AV.int)) (.int (j : Nat)) = some (.int (kindsO o)[j]) := fun {σ} j h => getA_list (by rw [List.getElem?_map, List.getElem?_eq_getElem h]; rfl)
  refine x_assign rfl (by kernel_rfl) <| q_list (by decide) <| q_cons <| q_sub rfl <| q_name (Eq.trans (b := m "kinds") (by kernel_rfl) h2) <| q_name (Eq.trans (b := m "first") (by kernel_rfl) h3) <| .eq (hat f (by first | lia | omega)) <|
    q_cons <| q_sub rfl <| q_name (Eq.trans (b := m "kinds") (by kernel_rfl) h2) <| q_bin <| q_bin <| q_bin <| q_name (Eq.trans (b := m "first") (by kernel_rfl) h3) <| .eq rfl <| .eq rfl <|
    q_bin <| q_bin <| q_sub rfl <| q_name (Eq.trans (b := m "numbers") (by kernel_rfl) h1) <| .eq rfl <| .eq (a := .int n0) rfl <| .eq rfl <| .eq (a := (.int (n0.fdiv 49), σ)) rfl <| .eq rfl <| .eq (a := (.int ((n0.fdiv 49).fmod 48), σ)) rfl <| .eq rfl <| .eq rfl <| .eq (a := (.int (j : Nat), σ)) ?_ <| .eq (hat j (by first | lia | omega)) <|
    q_cons <| .eq rfl <| q_cons <| .eq rfl <| q_cons <| .eq rfl <| q_cons <| .eq rfl <| q_nil <| hP _ _ (List.getElem_mem (by first | lia | omega)) (List.getElem_mem (by first | lia | omega))
  show some (AV.int (((f : Int) + 1 + (n0.fdiv 49).fmod 48).fmod 49), σ) = _
  rw [show ((f : Int) + 1 + (n0.fdiv 49).fmod 48).fmod 49 = (j : Int) from ej]

/-- the word of a symbol -/
noncomputable def W2 (i o : Nat) (s : Int) : Str := (lk s (symsO o) (wordsI i)).getD ""
theorem symbol_all {i o : Nat} (h : i < 6) : ((wordsI i).map fun w => (lk w exK exV).getD ((lk w (namesIs i) (([0, (o : Int), 256, 257, 258, 259] : List Int).map AV.int)).getD (.int (-1)))) = (symsO o).map AV.int := by
  rcases six h with rfl | rfl | rfl | rfl | rfl | rfl <;> kernel_rfl
theorem sym_ix {i o : Nat} (hi : i < 6) (ho : OthOk o) {s : Int} (hs : s ∈ symsO o) : ∃ (k : Nat) (h : k < (symsO o).length) (h' : k < (wordsI i).length), s = (symsO o)[k] ∧ W2 i o s = (wordsI i)[k] ∧ lk s (symsO o) (wordsI i) = some ((wordsI i)[k]) := by
  obtain ⟨k, hk, rfl⟩ := List.getElem_of_mem hs
  have hk' : k < (wordsI i).length := by rw [wordsI_len hi]; rw [symsO_len] at hk; exact hk
  have e := lk_get (symsO o) (wordsI i) (symsO_nodup ho) k hk
  rw [List.getElem?_eq_getElem hk'] at e
  exact ⟨k, hk, hk', rfl, by rw [W2, e]; rfl, e⟩
theorem lk_map {K α β : Type} [DecidableEq K] (f : α → β) (s : K) (ks : List K) (vs : List α) : lk s ks (vs.map f) = (lk s ks vs).map f := by
  induction ks generalizing vs with
  | nil => rfl
  | cons x xs ih =>
    cases vs with
    | nil => rfl
    | cons v vs =>
      show (if x = s then some (f v) else lk s xs (vs.map f)) = (if x = s then some v else lk s xs vs).map f
      by_cases h : x = s
      · rw [if_pos h, if_pos h]; rfl
      · rw [if_neg h, if_neg h]; exact ih vs
theorem wok {i o : Nat} (hi : i < 6) (ho : OthOk o) : WOk (· ∈ symsO o) (W2 i o) (toldA i o) (writtenA i o) where
  sym := fun {n σ s} hs => by
    obtain ⟨k, h1, h2, rfl, h4, h5⟩ := sym_ix hi ho hs
    rw [h4]
    refine call_symbol.trans ?_
    have e := congrArg (fun l => l[k]?) (symbol_all (o := o) hi)
    simp only [List.getElem?_map, List.getElem?_eq_getElem h1, List.getElem?_eq_getElem h2, Option.map_some, Option.some.injEq] at e
    rw [e]
  wr := fun {σ s} hs _ => by
    obtain ⟨k, h1, h2, rfl, h4, h5⟩ := sym_ix hi ho hs
    show (some (lk _ (symsO o) ((wordsI i).map AV.str))).bind id = _
    rw [lk_map, h5, h4]
    rfl
end Mine
namespace Mine
open PySem PyProof.Rows

theorem Sat.get {α : Type} {x : Option α} {a : α} (h : Sat x fun r => r = a) : x = some a := by cases x with
  | none => exact h.elim
  | some b => exact congrArg some h
theorem getD_mem' {b : List Int} {i : Nat} (h : i < b.length) : b.getD i 0 ∈ b := by simp [List.getD, List.getElem?_eq_getElem h]
theorem n5_at {n0 n1 n2 n3 n4 : Int} {i : Nat} (h : i < 4) : ∃ n : Int, ∀ σ, getA σ (n5 n0 n1 n2 n3 n4) (.int ((i : Int) + 1)) = some (.int n) := by
  have : i = 0 ∨ i = 1 ∨ i = 2 ∨ i = 3 := or4 (by first | assumption | lia | omega)
  rcases this with rfl | rfl | rfl | rfl
  · exact ⟨n1, fun σ => by kernel_rfl⟩
  · exact ⟨n2, fun σ => by kernel_rfl⟩
  · exact ⟨n3, fun σ => by kernel_rfl⟩
  · exact ⟨n4, fun σ => by kernel_rfl⟩
noncomputable def forBody : Stmt → List Stmt
  | .For _ _ b _ _ => b
  | _ => []
theorem rules_figs {Φ : Fns} {m : Fm} {σ : Sto} {n0 n1 n2 n3 n4 : Int} {i : Nat} (hi : i < 4) (h1 : m "numbers" = some (n5 n0 n1 n2 n3 n4)) (h2 : m "k" = some (.int (i : Nat))) {P : Fl × Fm × Sto → Prop}
    (hP : ∀ fs : List Nat, fs.length ≤ 2 → (∀ f ∈ fs, f < 6) → P (.next, m.set "figures" (.list (fs.map fun (j : Nat) => AV.int (j : Nat))), σ)) : Sat (ex cfgP Φ (stAt (forBody (lawSt 9)) 0) scL m σ) P := by
  obtain ⟨n, hn⟩ := n5_at (n0 := n0) (n1 := n1) (n2 := n2) (n3 := n3) (n4 := n4) hi
  obtain ⟨a, ha, ea⟩ := fmod_nat (n.fdiv 4) 6 (by decide)
  obtain ⟨b, hb, eb⟩ := fmod_nat (n.fdiv 24) 6 (by decide)
  obtain ⟨d, hd, ed⟩ := fmod_nat n 4 (by decide)
  obtain ⟨c, hc, ec⟩ : ∃ c : Nat, c ≤ 2 ∧ ∀ σ, getA σ (.list (([2, 1, 0, 2] : List Int).map AV.int)) (.int (d : Nat)) = some (.int (c : Nat)) := by
    have : d = 0 ∨ d = 1 ∨ d = 2 ∨ d = 3 := or4 (by first | assumption | lia | omega)
    rcases this with rfl | rfl | rfl | rfl
    · exact ⟨2, by decide, fun σ => by kernel_rfl⟩
    · exact ⟨1, by decide, fun σ => by kernel_rfl⟩
    · exact ⟨0, by decide, fun σ => by kernel_rfl⟩
    · exact ⟨2, by decide, fun σ => by kernel_rfl⟩
  refine x_assign rfl (by kernel_rfl) <| q_slice <| q_list (by decide) <| q_cons <| q_bin <| q_bin <| q_sub rfl <| q_name (Eq.trans (b := m "numbers") (by kernel_rfl) h1) <| q_bin <| q_name (Eq.trans (b := m "k") (by kernel_rfl) h2) <| .eq rfl <| .eq rfl <| .eq (hn _) <| .eq rfl <| .eq (a := (.int (n.fdiv 4), σ)) rfl <| .eq rfl <| .eq (a := (.int (a : Nat), σ)) ?_ <|
    q_cons <| q_bin <| q_bin <| q_sub rfl <| q_name (Eq.trans (b := m "numbers") (by kernel_rfl) h1) <| q_bin <| q_name (Eq.trans (b := m "k") (by kernel_rfl) h2) <| .eq rfl <| .eq rfl <| .eq (hn _) <| .eq rfl <| .eq (a := (.int (n.fdiv 24), σ)) rfl <| .eq rfl <| .eq (a := (.int (b : Nat), σ)) ?_ <|
    q_nil <| q_none <| q_some <| q_sub rfl <| .eq (a := (.list (([2, 1, 0, 2] : List Int).map AV.int), σ)) (by kernel_rfl) <| q_bin <| q_sub rfl <| q_name (Eq.trans (b := m "numbers") (by kernel_rfl) h1) <| q_bin <| q_name (Eq.trans (b := m "k") (by kernel_rfl) h2) <| .eq rfl <| .eq rfl <| .eq (hn _) <| .eq rfl <| .eq (a := (.int (d : Nat), σ)) ?_ <|
    .eq (ec _) <| .eq rfl <| .eq rfl <| .eq (a := (.list ((([a, b] : List Nat).take c).map fun (j : Nat) => AV.int (j : Nat)), σ)) ?_ <| hP _ (by simp; first | lia | omega) (fun f hf => ?_)
  · show some (AV.int ((n.fdiv 4).fmod 6), σ) = _
    rw [show (n.fdiv 4).fmod 6 = (a : Int) from ea]
  · show some (AV.int ((n.fdiv 24).fmod 6), σ) = _
    rw [show (n.fdiv 24).fmod 6 = (b : Int) from eb]
  · show some (AV.int (n.fmod 4), σ) = _
    rw [show n.fmod 4 = (d : Int) from ed]
  · show some (mkL cfgP _ (cutL (([a, b] : List Nat).map fun (j : Nat) => AV.int (j : Nat)) none (some (c : Int))) σ) = _
    rw [cut_to, mkL_f (by kernel_rfl), List.map_take]
  · have := List.mem_of_mem_take hf
    simp only [List.mem_cons, List.not_mem_nil, or_false] at this
    first | lia | omega

theorem rules_app {Φ : Fns} {m : Fm} {σ : Sto} {L i : Nat} {fs : List Nat} {sy : List Int} {rs : List AV} (hfs : fs.length ≤ 2) (hf6 : ∀ f ∈ fs, f < sy.length) (h1 : m "symbols" = some (.list (sy.map AV.int))) (h2 : m "k" = some (.int (i : Nat))) (h3 : m "figures" = some (.list (fs.map fun (j : Nat) => AV.int (j : Nat))))
    (h4 : m "rules" = some (.loc L)) (h5 : σ.get L = some (.list rs)) (h6 : rs.length < 1000) {P : Fl × Fm × Sto → Prop}
    (hP : P (.next, m, σ.upd L (.list (rs ++ [.list (((256 + (i : Int)) :: (fs.map (fun f => sy.getD f 0) ++ [0])).map AV.int)])))) : Sat (ex cfgP Φ (stAt (forBody (lawSt 9)) 1) scL m σ) P := by
  refine x_expr rfl <| q_meth (by decide) <| q_name (Eq.trans (b := m "rules") (by kernel_rfl) h4) <| .eq (res_app h5) <| q_cons <| q_bin <| q_bin <| q_list (by decide) <| q_cons <| q_bin <| .eq rfl <| q_name (Eq.trans (b := m "k") (by kernel_rfl) h2) <| .eq rfl <| q_nil <|
    q_listcomp (by kernel_rfl) <| q_src rfl <| q_name (Eq.trans (b := m "figures") (by kernel_rfl) h3) ?_
  refine comp_map (xs := fs.map fun (j : Nat) => AV.int (j : Nat)) (fs.map fun f => AV.int (sy.getD f 0)) (fun v => by kernel_rfl) (by kernel_rfl) rfl (by simp; first | lia | omega) (by simp) (fun k hk => ?_) ?_
  · have hk' : k < fs.length := by simpa using hk
    have hlt := hf6 _ (List.getElem_mem hk')
    simp only [List.getElem_map]
    generalize fs[k] = f at *
    refine Sat.get <| q_sub rfl <| q_name (Eq.trans (b := m "symbols") (by kernel_rfl) h1) <| q_name (v := .int (f : Nat)) (by kernel_rfl) <| .eq (getA_list (by rw [List.getElem?_map, List.getElem?_eq_getElem hlt]; rfl)) ?_
    simp [List.getD, List.getElem?_eq_getElem hlt]
  · refine .eq (a := (.list ((.int (256 + (i : Int))) :: fs.map fun f => AV.int (sy.getD f 0)), σ)) ?_ ?_
    · exact (add_lists (p := _) (xs := [.int (256 + (i : Int))]) (ys := fs.map fun f => AV.int (sy.getD f 0)) (by kernel_rfl) (by simp; first | lia | omega))
    · refine q_list (by decide) <| q_cons <| .eq rfl <| q_nil <| .eq (add_lists (by kernel_rfl) (by simp; first | lia | omega)) <| q_nil <| .eq (run_app h5 (by first | lia | omega)) ?_
      have : AV.list ((AV.int (256 + (i : Int)) :: fs.map fun f => AV.int (sy.getD f 0)) ++ [AV.int 0]) = .list (((256 + (i : Int)) :: (fs.map (fun f => sy.getD f 0) ++ [0])).map AV.int) := congrArg AV.list (by simp)
      rw [this]
      exact hP

/-- the rules -/
theorem law_rules {Φ : Fns} {m : Fm} {σ : Sto} {n0 n1 n2 n3 n4 : Int} {L : Nat} {sy : List Int} (hsy : sy.length = 6) (h1 : m "numbers" = some (n5 n0 n1 n2 n3 n4)) (h2 : m "symbols" = some (.list (sy.map AV.int))) (h3 : m "rules" = some (.loc L)) (h4 : σ.get L = some (.list [])) {P : Fl × Fm × Sto → Prop}
    (hP : ∀ m' σ' br, (∀ x : Str, x ≠ "k" → x ≠ "figures" → m' x = m x) → (∀ k, k < 4 → (br k).length ≤ 2 ∧ ∀ s ∈ br k, s ∈ sy) → σ'.get L = some (.list ((List.range 4).map (ruleA br))) → Keep L σ σ' → P (.next, m', σ')) : Sat (ex cfgP Φ (lawSt 9) scL m σ) P := by
  refine x_for (xs := (List.range 4).map fun (i : Nat) => AV.int (i : Nat)) (I := fun i s => (∀ x : Str, x ≠ "k" → x ≠ "figures" → s.1 x = m x) ∧ Keep L σ s.2 ∧ ∃ br : Nat → List Int, (∀ k, k < i → (br k).length ≤ 2 ∧ ∀ s ∈ br k, s ∈ sy) ∧ s.2.get L = some (.list ((List.range i).map (ruleA br)))) <|
    .eq (a := (.range 0 4, σ)) (by kernel_rfl) ⟨by kernel_rfl, ⟨fun _ _ _ => rfl, Keep.refl, fun _ => [], fun k hk => by first | lia | omega, h4⟩, fun i s h => by kernel_rfl, fun s h => ?_, fun i s hi h => ?_⟩
  · obtain ⟨m', σ'⟩ := s
    obtain ⟨f1, k1, br, b1, g1⟩ := h
    exact hP m' σ' br f1 b1 g1 k1
  · obtain ⟨m2, σ2⟩ := s
    obtain ⟨f1, k1, br, b1, g1⟩ := h
    simp only at f1 k1 g1
    have hi4 : i < 4 := by simpa using hi
    have ex0 : ((List.range 4).map fun (i : Nat) => AV.int (i : Nat))[i]'hi = .int (i : Nat) := by simp
    rw [ex0]
    have e1 : m2 "numbers" = some (n5 n0 n1 n2 n3 n4) := (f1 _ (by decide) (by decide)).trans h1
    have e2 : m2 "symbols" = some (.list (sy.map AV.int)) := (f1 _ (by decide) (by decide)).trans h2
    have e3 : m2 "rules" = some (.loc L) := (f1 _ (by decide) (by decide)).trans h3
    refine .eq (a := m2.set "k" (.int (i : Nat))) (by kernel_rfl) ?_
    refine x_cons (by kernel_rfl) <| rules_figs hi4 (Eq.trans (b := m2 "numbers") (by kernel_rfl) e1) (by kernel_rfl) fun fs c1 c2 => ?_
    refine x_cons (by kernel_rfl) <| rules_app (L := L) (i := i) c1 (fun f hf => by rw [hsy]; exact c2 f hf) (Eq.trans (b := m2 "symbols") (by kernel_rfl) e2) (by kernel_rfl) (by kernel_rfl) (Eq.trans (b := m2 "rules") (by kernel_rfl) e3) g1 (by simp; first | lia | omega) ?_
    refine x_nil ⟨fun x hx hy => ?_, k1.trans (Keep.upd (Nat.le_refl _)), fun k => if k = i then fs.map (fun f => sy.getD f 0) else br k, fun k hk => ?_, ?_⟩
    · show ((m2.set "k" _).set "figures" _) x = _
      rw [Fm.set, if_neg hy, Fm.set, if_neg hx]
      exact f1 x hx hy
    · by_cases hki : k = i
      · simp only [if_pos hki, List.length_map]
        refine ⟨c1, fun s hs => ?_⟩
        obtain ⟨f, hf, rfl⟩ := List.mem_map.mp hs
        exact getD_mem' (by rw [hsy]; exact c2 f hf)
      · simp only [if_neg hki]
        exact b1 k (by first | lia | omega)
    · rw [upd_at, List.range_succ, List.map_append]
      congr 2
      congr 1
      · refine List.map_congr_left fun k hk => ?_
        have := List.mem_range.mp hk
        simp only [ruleA, ruleZ]
        rw [if_neg (by first | lia | omega)]
      · simp only [List.map_cons, List.map_nil, ruleA, ruleZ, if_pos]
end Mine
namespace Mine
open PySem PyProof.Rows

theorem cut_mid {α : Type} (xs : List α) (a b : Nat) : cutL xs (some (a : Int)) (some (b : Int)) = (xs.drop (min a xs.length)).take (min b xs.length - min a xs.length) := by
  show (sliceRange (max 0 (min (if (a : Int) < 0 then (a : Int) + xs.length else a) xs.length)) (max 0 (min (if (b : Int) < 0 then (b : Int) + xs.length else b) xs.length)) 1).filterMap (xs.toArray[·]?) = _
  rw [clip_nat, clip_nat, pick_at]
noncomputable def qOf (x : Int) : Nat × Nat := ((x.fmod 4).toNat, ((x.fdiv 4).fmod 4).toNat)
theorem qOf_lt (x : Int) : (qOf x).1 < 4 ∧ (qOf x).2 < 4 := by
  obtain ⟨a, ha, ea⟩ := fmod_nat x 4 (by decide)
  obtain ⟨b, hb, eb⟩ := fmod_nat (x.fdiv 4) 4 (by decide)
  have ea : x.fmod 4 = (a : Int) := ea
  have eb : (x.fdiv 4).fmod 4 = (b : Int) := eb
  simp only [qOf, ea, eb]
  first | lia | omega
theorem qA_of (x : Int) : qA (qOf x) = .tuple [.int (256 + x.fmod 4), .int (256 + (x.fdiv 4).fmod 4)] := by
  obtain ⟨a, ha, ea⟩ := fmod_nat x 4 (by decide)
  obtain ⟨b, hb, eb⟩ := fmod_nat (x.fdiv 4) 4 (by decide)
  have ea : x.fmod 4 = (a : Int) := ea
  have eb : (x.fdiv 4).fmod 4 = (b : Int) := eb
  simp only [qOf, qA, ea, eb, Int.toNat_natCast]

theorem law_quest {Φ : Fns} {m : Fm} {σ : Sto} {zs : List Int} (h1 : m "script" = some (.list (zs.map AV.int))) (hlen : zs.length ≤ 63) {P : Fl × Fm × Sto → Prop}
    (hP : ∀ qs : List (Nat × Nat), qs.length ≤ 9 → (∀ q ∈ qs, q.1 < 4 ∧ q.2 < 4) → P (.next, m.set "questions" (.list (qs.map qA)), σ)) : Sat (ex cfgP Φ (lawSt 10) scL m σ) P := by
  refine x_assign rfl (by kernel_rfl) <| q_listcomp (by kernel_rfl) <| q_src rfl ?_
  refine Sat.mono (P := fun v => ∃ L : List Int, L.length ≤ 9 ∧ v = (.list (L.map AV.int), σ)) ?_ fun v hv => ?_
  · refine q_if <| t_cmp <| q_call rfl (g := .bi .len) (by kernel_rfl) <| q_cons <| q_name (Eq.trans (b := m "script") (by kernel_rfl) h1) <| q_nil <| .eq (a := (.int zs.length, σ)) ?_ <| .eq rfl <| .eq rfl ?_
    · show some (AV.int (zs.map AV.int).length, σ) = _
      rw [List.length_map]
    · split
      · refine q_slice <| q_name (Eq.trans (b := m "script") (by kernel_rfl) h1) <| q_some <| .eq rfl <| q_some <| .eq rfl <| .eq rfl <| .eq rfl <| .eq (a := (.list ((cutL zs (some 5) (some 9)).map AV.int), σ)) ?_ ⟨_, ?_, rfl⟩
        · show some (mkL cfgP _ (cutL (zs.map AV.int) (some ((5 : Nat) : Int)) (some ((9 : Nat) : Int))) σ) = some (.list ((cutL zs (some ((5 : Nat) : Int)) (some ((9 : Nat) : Int))).map AV.int), σ)
          rw [mkL_f (by kernel_rfl), cut_mid, cut_mid, List.length_map, List.map_take, List.map_drop]
        · show (cutL zs (some ((5 : Nat) : Int)) (some ((9 : Nat) : Int))).length ≤ 9
          rw [cut_mid]
          exact Nat.le_trans (List.length_take_le _ _) (Nat.le_trans (Nat.sub_le _ _) (Nat.min_le_left _ _))
      · exact .eq (a := (.list (([4, 12, 9] : List Int).map AV.int), σ)) (by kernel_rfl) ⟨_, by decide, rfl⟩
  · obtain ⟨L, hL, rfl⟩ := hv
    refine comp_map (xs := L.map AV.int) ((L.map qOf).map qA) (fun v => by kernel_rfl) (by kernel_rfl) rfl (by simp; first | lia | omega) (by simp) (fun k hk => ?_) (hP (L.map qOf) (by simpa using hL) fun q hq => ?_)
    · simp only [List.getElem_map]
      generalize L[k]'(by simpa using hk) = x
      rw [qA_of]
      kernel_rfl
    · obtain ⟨x, _, rfl⟩ := List.mem_map.mp hq
      exact qOf_lt x

section
variable {c : Cfg} {Φ : Fns} {csc : Scope} {m : Fm} {σ : Sto} {p p' q q' : Pos} {x y : Str} {elt : Expr} {v : AV} {xs : List AV}
theorem comp_acc (vs0 f : List AV) (ks : Keys) (hx : ∀ v, setv csc m x v = some (m.set x v)) (hfr : (m x).isNone = true) (hv : items? σ v = some xs) (hlen : vs0.length + xs.length ≤ 1000) (hl : f.length = xs.length)
    (he : ∀ i (h : i < xs.length), ev c Φ elt csc (m.set x xs[i]) σ = some (f[i], σ)) {P : Acc × Sto → Prop} (hP : P (⟨ks, vs0 ++ f⟩, σ)) : Sat (compA csc (.val v) (.Name x p) m (trs c Φ [] csc) (gens c Φ (emitL (ev c Φ elt csc)) [] csc) ⟨ks, vs0⟩ σ) P := by
  refine compA_inv (xs := xs) (I := fun i b => b = (⟨ks, vs0 ++ f.take i⟩, σ)) ⟨rfl, hfr⟩ (by simp) (fun i b h => by rw [h]; exact hv) (fun b h => ?_) (fun i b hi h => ?_)
  · rw [h, ← hl, List.take_length]; exact hP
  · subst h
    refine .eq (a := m.set x xs[i]) (by show setv csc m x xs[i] = _; exact hx _) (t_trs0 ?_)
    rw [if_pos rfl]
    refine q_gens0 (q_emitL (.eq (he i hi) ⟨?_, ?_⟩))
    · simp; first | lia | omega
    · rw [take_snoc (l := f) (by first | lia | omega), List.append_assoc]
theorem comp_flat (rows : List (List AV)) (hx : ∀ v, setv csc m x v = some (m.set x v)) (hy : ∀ m v, setv csc m y v = some (m.set y v)) (hfr : (m x).isNone = true) (hfr' : ∀ v, ((m.set x v) y).isNone = true) (hlx : ∀ v, look c csc (m.set x v) x = some v) (hly : ∀ m v, look c csc (Fm.set m y v) y = some v)
    (hv : items? σ v = some xs) (hl : rows.length = xs.length) (hi : ∀ i (h : i < xs.length), items? σ xs[i] = some (rows[i])) (hlen : rows.flatten.length ≤ 1000) {P : Acc × Sto → Prop} (hP : P (⟨.ki [], rows.flatten⟩, σ)) :
    Sat (compA csc (.val v) (.Name x p) m (trs c Φ [] csc) (gens c Φ (emitL (ev c Φ (.Name y q) csc)) [⟨.Name y p', .Name x q', [], 0⟩] csc) ⟨.ki [], []⟩ σ) P := by
  have hpre : ∀ i (h : i < rows.length), (rows.take (i + 1)).flatten = (rows.take i).flatten ++ rows[i] := fun i h => by rw [take_snoc h, List.flatten_append]; simp only [List.flatten_cons, List.flatten_nil, List.append_nil]
  have hle : ∀ i, (rows.take i).flatten.length ≤ rows.flatten.length := fun i => by
    have : rows.flatten = (rows.take i).flatten ++ (rows.drop i).flatten := by rw [← List.flatten_append, List.take_append_drop]
    rw [this, List.length_append]; first | lia | omega
  refine compA_inv (xs := xs) (I := fun i b => b = (⟨.ki [], (rows.take i).flatten⟩, σ)) ⟨rfl, hfr⟩ (by simp) (fun i b h => by rw [h]; exact hv) (fun b h => ?_) (fun i b hi' h => ?_)
  · rw [h, ← hl, List.take_length]; exact hP
  · subst h
    refine .eq (a := m.set x xs[i]) (by show setv csc m x xs[i] = _; exact hx _) (t_trs0 ?_)
    rw [if_pos rfl]
    have h1 := hle (i + 1)
    rw [hpre i (by first | lia | omega), List.length_append] at h1
    refine q_gens (q_name (hlx _) (comp_acc (elt := .Name y q) (xs := rows[i]'(by first | lia | omega)) ((rows.take i).flatten) (rows[i]'(by first | lia | omega)) (.ki []) (hy _) (hfr' _) (hi i hi') (by first | lia | omega) rfl (fun j hj => by show (look c csc _ y).map (fun v => (v, σ)) = _; rw [hly]; rfl) ?_))
    rw [hpre i (by first | lia | omega)]
end
end Mine
namespace Mine
open PySem PyProof.Rows

theorem words_mem {i : Nat} (hi : i < 6) : ∀ w ∈ wordsI i, w ∈ words56 := fun w hw => by
  have hn : ∀ w ∈ namesI i, w ∈ names6 := by rcases six hi with rfl | rfl | rfl | rfl | rfl | rfl <;> decide +kernel
  unfold wordsI at hw
  unfold words56
  rcases List.mem_append.mp hw with h | h
  · exact List.mem_append_left _ h
  · exact List.mem_append_right _ (hn w h)
theorem word_ne {i : Nat} (hi : i < 6) : ((wordsI i).drop 1).all (fun w => !w.cps.isEmpty) = true := by rcases six hi with rfl | rfl | rfl | rfl | rfl | rfl <;> decide +kernel
theorem W2_zero {i o : Nat} : W2 i o 0 = ⟨#[]⟩ := by kernel_rfl
theorem case_ok {i o : Nat} (hi : i < 6) (ho : OthOk o) {s : Int} (hs : s ∈ symsO o) {mn : Nat} (hm : mn < 3) (h0 : s = 0 → mn = 0) {b : Nat} (hb : b ∈ blank4) : (W2 i o s, mn, b) ∈ cases672 := by
  obtain ⟨k, h1, h2, e, h4, h5⟩ := sym_ix hi ho hs
  rw [h4]
  unfold cases672
  refine List.mem_flatMap.mpr ⟨_, words_mem hi _ (List.getElem_mem h2), List.mem_flatMap.mpr ⟨mn, ?_, List.mem_map.mpr ⟨b, hb, rfl⟩⟩⟩
  by_cases hk : k = 0
  · subst hk
    have : mn = 0 := h0 e
    subst this
    split <;> simp
  · have := List.all_eq_true.mp (word_ne hi) ((wordsI i)[k]) (by
      rw [List.mem_iff_getElem]
      exact ⟨k - 1, by simp; first | lia | omega, by simp only [List.getElem_drop]; congr 1; first | lia | omega⟩)
    rw [if_neg (by simpa using this)]
    have : mn = 0 ∨ mn = 1 ∨ mn = 2 := by first | lia | omega
    rcases this with rfl | rfl | rfl <;> simp
theorem written_one {n : Nat} {σ : Sto} {x : Str × Nat × Nat} (hx : x ∈ cases672) : F (n + 1) "_law_written" [.str x.1, .int x.2.1, .str ⟨#[x.2.2]⟩] σ = some (.str ⟨(enc x).toArray⟩, σ.upto σ.nx) := List.map_inj_left.mp written_all x hx

noncomputable def encA (c : Str × Nat × Nat) : AV := .str ⟨(enc c).toArray⟩
noncomputable def rsyms (br : Nat → List Int) : List Int := (List.range 4).flatMap (ruleZ br)

theorem texts_turn {n : Nat} {m : Fm} {σ : Sto} {n0 n1 n2 n3 n4 : Int} {i o L : Nat} {s : Int} {cs : List (Str × Nat × Nat)} (hi : i < 6) (ho : OthOk o) (hs : s ∈ symsO o) (h1 : m "numbers" = some (n5 n0 n1 n2 n3 n4)) (h2 : m "written" = some (writtenA i o)) (h3 : m "texts" = some (.loc L)) (h4 : m "symbol" = some (.int s)) (h5 : σ.get L = some (.list (cs.map encA))) (h6 : cs.length < 1000) (hL : L < σ.nx)
    {P : Fl × Fm × Sto → Prop} (hP : ∀ m' σ' c, (∀ x : Str, x ≠ "manner" → m' x = m x) → c ∈ cases672 → c.1 = W2 i o s → σ'.get L = some (.list ((cs ++ [c]).map encA)) → Keep L σ σ' → P (.next, m', σ')) : Sat (exs cfgP (F (n + 1)) (forBody (lawSt 12)) scL m σ) P := by
  have hlen : ∀ {c : Cfg} {Φ : Fns} {p : Pos}, callV c Φ p (.bi .len) [.loc L] σ = some (.int cs.length, σ) := fun {c Φ p} => by
    rw [len_loc h5, List.length_map]
  have hs0 : 0 ≤ s := by
    rcases syms_mem.mp hs with h | h | h
    · first | lia | omega
    · rcases kinds_mem.mp h with h | h
      · first | lia | omega
      · first | lia | omega
    · first | lia | omega
  refine x_cons (by kernel_rfl) <| x_assign rfl (by kernel_rfl) <| Sat.mono (P := fun r => ∃ mn : Nat, mn < 3 ∧ (s = 0 → mn = 0) ∧ r = (.int (mn : Nat), σ)) ?_ fun r hr => ?_
  · refine q_if <| t_cmp <| q_name (Eq.trans (b := m "symbol") (by kernel_rfl) h4) <| .eq rfl <| .eq rfl ?_
    by_cases h : 0 < s
    · rw [if_pos (by simpa using h)]
      obtain ⟨k, hk, ek⟩ := fmod_nat (n0.fdiv 14112 + (cs.length : Nat)) 3 (by decide)
      refine q_bin <| q_bin <| q_bin <| q_sub rfl <| q_name (Eq.trans (b := m "numbers") (by kernel_rfl) h1) <| .eq rfl <| .eq (a := .int n0) rfl <| .eq rfl <| .eq (a := (.int (n0.fdiv 14112), σ)) rfl <| q_call rfl (g := .bi .len) (by kernel_rfl) <| q_cons <| q_name (Eq.trans (b := m "texts") (by kernel_rfl) h3) <| q_nil <|
        .eq hlen <| .eq rfl <| .eq rfl <| .eq (a := (.int (k : Nat), σ)) ?_ ⟨k, hk, fun e => by first | lia | omega, rfl⟩
      show some (AV.int ((n0.fdiv 14112 + (cs.length : Nat)).fmod 3), σ) = _
      rw [show (n0.fdiv 14112 + (cs.length : Nat)).fmod 3 = (k : Int) from ek]
    · rw [if_neg (by simpa using h)]
      exact .eq rfl ⟨0, by decide, fun _ => rfl, rfl⟩
  · obtain ⟨mn, hm1, hm2, rfl⟩ := hr
    obtain ⟨j, hj, ej⟩ := fmod_nat (cs.length : Nat) 4 (by decide)
    obtain ⟨b, hb, eb⟩ : ∃ b, b ∈ blank4 ∧ ∀ σ, getA σ (.str ⟨#[10, 9, 13, 32]⟩) (.int (j : Nat)) = some (.str ⟨#[b]⟩) := by
      have : j = 0 ∨ j = 1 ∨ j = 2 ∨ j = 3 := or4 (by first | assumption | lia | omega)
      rcases this with rfl | rfl | rfl | rfl
      · exact ⟨10, by decide, fun σ => by kernel_rfl⟩
      · exact ⟨9, by decide, fun σ => by kernel_rfl⟩
      · exact ⟨13, by decide, fun σ => by kernel_rfl⟩
      · exact ⟨32, by decide, fun σ => by kernel_rfl⟩
    have hc := case_ok hi ho hs hm1 hm2 hb
    have hwr : ∀ σ, getA σ (writtenA i o) (.int s) = some (.str (W2 i o s)) := fun σ => by
      by_cases h0 : s = 0
      · subst h0; kernel_rfl
      · exact (wok hi ho).wr hs h0
    clear hm2 hs
    generalize W2 i o s = w at *
    generalize writtenA i o = wr at *
    have hw1 := fun (σ : Sto) => written_one (n := n) (σ := σ) hc
    have k1 : Keep σ.nx σ (σ.upto σ.nx) := Keep.upto (Nat.le_refl _)
    refine x_cons (by kernel_rfl) <| x_expr rfl <| q_meth (by decide) <| q_name (Eq.trans (b := m "texts") (by kernel_rfl) h3) <| .eq (res_app h5) <| q_cons <| q_call rfl (g := .glob "_law_written") (by kernel_rfl) <| q_cons <| q_sub rfl <| q_name (Eq.trans (b := m "written") (by kernel_rfl) h2) <|
      q_name (Eq.trans (b := m "symbol") (by kernel_rfl) h4) <| .eq (hwr _) <| q_cons <| q_name (v := .int (mn : Nat)) (by kernel_rfl) <| q_cons <| q_sub rfl <| .eq (a := (.str ⟨#[10, 9, 13, 32]⟩, σ)) (by kernel_rfl) <| q_bin <| q_call rfl (g := .bi .len) (by kernel_rfl) <| q_cons <|
      q_name (Eq.trans (b := m "texts") (by kernel_rfl) h3) <| q_nil <| .eq hlen <| .eq rfl <| .eq (a := (.int (j : Nat), σ)) ?_ <| .eq (eb _) <| q_nil <| .eq (hw1 _) <| q_nil <| .eq (run_app (k1.get hL h5) (by simp; first | lia | omega)) <| x_nil <| hP _ _ _ (fun x hx => ?_) hc rfl ?_ ((k1.less (Nat.le_of_lt hL)).trans (Keep.upd (Nat.le_refl _)))
    · show some (AV.int ((cs.length : Int).fmod 4), σ) = _
      rw [show (cs.length : Int).fmod 4 = (j : Int) from ej]
    · show (m.set "manner" _) x = _
      rw [Fm.set, if_neg hx]
    · rw [List.map_append]; exact upd_at
end Mine
namespace Mine
open PySem PyProof.Rows

noncomputable def rulesA (br : Nat → List Int) : AV := .list ((List.range 4).map (ruleA br))
theorem qsyms_len (qs : List (Nat × Nat)) : (qsyms qs).length = 2 * qs.length := by
  induction qs with
  | nil => rfl
  | cons q qs ih => simp [qsyms] at ih ⊢; first | lia | omega
theorem rsyms_len {br : Nat → List Int} (h : ∀ k, k < 4 → (br k).length ≤ 2) : (rsyms br).length ≤ 16 := by
  have h0 := h 0 (by decide)
  have h1 := h 1 (by decide)
  have h2 := h 2 (by decide)
  have h3 := h 3 (by decide)
  simp [rsyms, ruleZ, List.range_succ]
  first | lia | omega

/-- all words are written -/
theorem law_texts {n : Nat} {m : Fm} {σ : Sto} {n0 n1 n2 n3 n4 : Int} {i o L : Nat} {br : Nat → List Int} {qs : List (Nat × Nat)} (hi : i < 6) (ho : OthOk o) (hb2 : ∀ k, k < 4 → (br k).length ≤ 2) (hq9 : qs.length ≤ 9) (hsy : ∀ s ∈ rsyms br ++ qsyms qs, s ∈ symsO o) (h1 : m "numbers" = some (n5 n0 n1 n2 n3 n4)) (h2 : m "written" = some (writtenA i o)) (h3 : m "texts" = some (.loc L))
    (h4 : m "rules" = some (rulesA br)) (h5 : m "questions" = some (.list (qs.map qA))) (h6 : σ.get L = some (.list [])) (hL : L < σ.nx)
    {P : Fl × Fm × Sto → Prop} (hP : ∀ m' σ' (cs : List (Str × Nat × Nat)), (∀ x : Str, x ≠ "manner" → x ≠ "symbol" → m' x = m x) → (∀ c ∈ cs, c ∈ cases672) → cs.map (·.1) = (rsyms br ++ qsyms qs).map (W2 i o) → σ'.get L = some (.list (cs.map encA)) → Keep L σ σ' → P (.next, m', σ')) : Sat (ex cfgP (F (n + 1)) (lawSt 12) scL m σ) P := by
  have hr16 := rsyms_len hb2
  have hq18 := qsyms_len qs
  refine x_for (xs := (rsyms br ++ qsyms qs).map AV.int) (I := fun k s => (∀ x : Str, x ≠ "manner" → x ≠ "symbol" → s.1 x = m x) ∧ Keep L σ s.2 ∧ ∃ cs : List (Str × Nat × Nat), (∀ c ∈ cs, c ∈ cases672) ∧ cs.map (·.1) = ((rsyms br ++ qsyms qs).take k).map (W2 i o) ∧ s.2.get L = some (.list (cs.map encA))) ?_
  refine q_bin <| q_listcomp (by kernel_rfl) <| q_src rfl <| q_name (Eq.trans (b := m "rules") (by kernel_rfl) h4) <| comp_flat (xs := (List.range 4).map (ruleA br)) ((List.range 4).map fun k => (ruleZ br k).map AV.int) (fun v => by kernel_rfl) (fun m v => by kernel_rfl) (by kernel_rfl) (fun v => by kernel_rfl) (fun v => by kernel_rfl) (fun m v => by kernel_rfl) rfl (by simp) (fun j hj => by simp [ruleA, items?]) ?_ ?_
  · have : ((List.range 4).map fun k => (ruleZ br k).map AV.int).flatten.length = (rsyms br).length := by simp [rsyms, List.flatMap, List.range_succ]
    first | lia | omega
  refine q_listcomp (by kernel_rfl) <| q_src rfl <| q_name (Eq.trans (b := m "questions") (by kernel_rfl) h5) <| comp_flat (xs := qs.map qA) (qs.map fun q => [AV.int (256 + (q.1 : Int)), AV.int (256 + (q.2 : Int))]) (fun v => by kernel_rfl) (fun m v => by kernel_rfl) (by kernel_rfl) (fun v => by kernel_rfl) (fun v => by kernel_rfl) (fun m v => by kernel_rfl) rfl (by simp) (fun j hj => by simp [qA, items?]) ?_ ?_
  · have : (qs.map fun q => [AV.int (256 + (q.1 : Int)), AV.int (256 + (q.2 : Int))]).flatten = (qsyms qs).map AV.int := by simp [qsyms, List.flatMap, List.map_flatten, Function.comp_def]
    rw [this, List.length_map]; first | lia | omega
  have e1 : ((List.range 4).map fun k => (ruleZ br k).map AV.int).flatten = (rsyms br).map AV.int := by simp [rsyms, List.flatMap, List.map_flatten, Function.comp_def]
  have e2 : (qs.map fun q => [AV.int (256 + (q.1 : Int)), AV.int (256 + (q.2 : Int))]).flatten = (qsyms qs).map AV.int := by simp [qsyms, List.flatMap, List.map_flatten, Function.comp_def]
  simp only
  rw [e1, e2, mkL_f (by kernel_rfl), mkL_f (by kernel_rfl)]
  refine .eq (add_lists (by kernel_rfl) (by simp; first | lia | omega)) ⟨?_, ⟨by simp, Keep.refl, [], by simp, by simp, h6⟩, fun k s h => ?_, fun s h => ?_, fun k s hk h => ?_⟩
  · rw [List.map_append]; rfl
  · show some _ = _
    rw [List.map_append]
  · obtain ⟨m', σ'⟩ := s
    obtain ⟨f1, k1, cs, c1, c2, g1⟩ := h
    rw [List.length_map, List.take_length] at c2
    exact hP m' σ' cs f1 c1 c2 g1 k1
  · obtain ⟨m2, σ2⟩ := s
    obtain ⟨f1, k1, cs, c1, c2, g1⟩ := h
    simp only at f1 k1 g1
    have hk' : k < (rsyms br ++ qsyms qs).length := by simpa using hk
    have hs := hsy _ (List.getElem_mem hk')
    have htk := take_snoc hk'
    have hcl : cs.length < 1000 := by
      have := congrArg List.length c2
      simp at this
      first | lia | omega
    rw [List.getElem_map]
    generalize (rsyms br ++ qsyms qs)[k] = s at *
    refine .eq (a := m2.set "symbol" (.int s)) (by kernel_rfl) ?_
    have e3 : (m2.set "symbol" (.int s)) "numbers" = some (n5 n0 n1 n2 n3 n4) := by rw [Fm.set, if_neg (by decide)]; exact (f1 _ (by decide) (by decide)).trans h1
    have e4 : (m2.set "symbol" (.int s)) "written" = some (writtenA i o) := by rw [Fm.set, if_neg (by decide)]; exact (f1 _ (by decide) (by decide)).trans h2
    have e5 : (m2.set "symbol" (.int s)) "texts" = some (.loc L) := by rw [Fm.set, if_neg (by decide)]; exact (f1 _ (by decide) (by decide)).trans h3
    have e6 : (m2.set "symbol" (.int s)) "symbol" = some (.int s) := if_pos rfl
    refine texts_turn (n := n) hi ho hs e3 e4 e5 e6 g1 hcl (Nat.lt_of_lt_of_le hL k1.2) fun m3 σ3 c f3 c3 c4 g3 k3 => ⟨fun x hx hy => ?_, k1.trans k3, cs ++ [c], fun d hd => ?_, ?_, g3⟩
    · show m3 x = m x
      rw [f3 x hx, Fm.set, if_neg hy]; exact f1 x hx hy
    · rcases List.mem_append.mp hd with h | h
      · exact c1 d h
      · rw [List.mem_singleton.mp h]; exact c3
    · rw [htk, List.map_append, List.map_append, c2]
      simp [c4]

theorem joinA_enc {cs : List (Str × Nat × Nat)} : joinA (cs.map encA) = some (cs.flatMap enc) := by
  induction cs with
  | nil => rfl
  | cons c cs ih =>
    show ((joinA (cs.map encA)).bind fun r => some (enc c ++ r)) = _
    rw [ih]; rfl
theorem enc_len : ∀ c ∈ cases672, (enc c).length ≤ 30 := by
  have : cases672.all (fun c => decide ((enc c).length ≤ 30)) = true := by kernel_rfl
  exact fun c hc => of_decide_eq_true (List.all_eq_true.mp this c hc)
theorem encs_len {cs : List (Str × Nat × Nat)} (h : ∀ c ∈ cs, c ∈ cases672) : (cs.flatMap enc).length ≤ 30 * cs.length := by
  induction cs with
  | nil => exact Nat.le_refl _
  | cons c cs ih =>
    rw [List.flatMap_cons, List.length_append, List.length_cons, Nat.mul_succ, Nat.add_comm]
    exact Nat.add_le_add (ih fun d hd => h d (.tail _ hd)) (enc_len c (h c (.head _)))
theorem cutS_last (L : List Nat) : cutS ⟨L.toArray⟩ none (some (-1)) = ⟨L.dropLast.toArray⟩ := by
  have e : Builtin.Str.strSliceIndices none (some (-1)) 1 L.length = (List.range (L.length - 1)).map (0 + ·) := by
    show sliceRange ((0 : Nat) : Int) (max 0 (min (if (-1 : Int) < 0 then (-1 : Int) + (L.length : Nat) else -1) ((L.length : Nat) : Int))) 1 = _
    rw [if_pos (by decide), show max (0 : Int) (min (-1 + (L.length : Int)) L.length) = ((L.length - 1 : Nat) : Int) by first | lia | omega, sliceRange_one]; rfl
  show (if ((Builtin.Str.strSliceIndices none (some (-1)) 1 L.length).length == L.length) = true then _ else (⟨((Builtin.Str.strSliceIndices none (some (-1)) 1 L.length).filterMap (L.toArray[·]?)).toArray⟩ : Str)) = _
  rw [e, pick_run, List.length_map, List.length_range, List.drop_zero, List.dropLast_eq_take]
  cases L with
  | nil => rfl
  | cons c L => exact if_neg fun q => absurd (beq_iff_eq.mp q) (Nat.ne_of_lt (Nat.lt_succ_self _))

theorem law_text {Φ : Fns} {m : Fm} {σ : Sto} {cs : List (Str × Nat × Nat)} (h1 : m "texts" = some (.list (cs.map encA))) (hc : ∀ c ∈ cs, c ∈ cases672) (hl : cs.length ≤ 100) {P : Fl × Fm × Sto → Prop} (hP : P (.next, m.set "text" (.str ⟨(cs.flatMap enc).dropLast.toArray⟩), σ)) : Sat (ex cfgP Φ (lawSt 13) scL m σ) P := by
  have h3 := encs_len hc
  refine x_assign rfl (by kernel_rfl) <| q_slice <| q_meth (by decide) <| .eq (a := (.str ⟨#[]⟩, σ)) (by kernel_rfl) <| .eq (a := .join) (by kernel_rfl) <| q_cons <| q_name (Eq.trans (b := m "texts") (by kernel_rfl) h1) <| q_nil <| .eq (a := (.str ⟨(cs.flatMap enc).toArray⟩, σ)) ?_ <|
    q_none <| q_some <| .eq (a := (.int (-1), σ)) (by kernel_rfl) <| .eq rfl <| .eq rfl <| .eq (a := (.str ⟨(cs.flatMap enc).dropLast.toArray⟩, σ)) ?_ hP
  · show ((joinA (cs.map encA)).bind fun r => if (⟨#[]⟩ : Str).length = 0 ∧ r.length ≤ 2 ^ 20 then some (AV.str ⟨r.toArray⟩, σ) else none) = _
    rw [joinA_enc, Option.bind_some, if_pos ⟨rfl, by first | lia | omega⟩]
  · show (if (cs.flatMap enc).length ≤ 2 ^ 20 then some (AV.str (cutS ⟨(cs.flatMap enc).toArray⟩ none (some (-1))), σ) else none) = _
    rw [if_pos (by first | lia | omega), cutS_last]
end Mine
namespace Mine
open PySem PyProof.Rows

theorem nodup_sub {α : Type} [DecidableEq α] : ∀ (l k : List α), l.Nodup → (∀ x ∈ l, x ∈ k) → l.length ≤ k.length
  | [], _, _, _ => Nat.zero_le _
  | x :: l, k, hn, hs => by
    have hn' := List.nodup_cons.mp hn
    have hx := hs x List.mem_cons_self
    have := nodup_sub l (k.erase x) hn'.2 fun y hy => (List.mem_erase_of_ne (fun e => hn'.1 (by rw [← e]; exact hy))).mpr (hs y (List.mem_cons_of_mem _ hy))
    rw [List.length_erase_of_mem hx] at this
    have := List.length_pos_of_mem hx
    simp only [List.length_cons]
    first | lia | omega
noncomputable def pairs16 : List Int := (List.range 4).flatMap fun (x : Nat) => (List.range 4).map fun (y : Nat) => 1000 * (256 + (x : Int)) + (256 + (y : Int))
theorem J02.seen_len {br : Nat → List Int} {a b : Int} {Q : List Trip} {f : Option (List Nat)} {seen : List Int} (J : J02 br a b Q f seen) : seen.length ≤ 16 := by
  have := nodup_sub seen pairs16 J.nodup fun z hz => by
    obtain ⟨x, y, r, h1, h2, h3, _⟩ := J.seenAt z hz
    rw [h3]
    exact List.mem_flatMap.mpr ⟨x, List.mem_range.mpr h1, List.mem_map.mpr ⟨y, List.mem_range.mpr h2, rfl⟩⟩
  exact this

/-- what holds while a question is looked at -/
noncomputable def JA (br : Nat → List Int) (o : Nat) (q : Nat × Nat) (Q : List Trip) (f : Option (List Nat)) (s : List Int) : Prop :=
  J02 br (256 + (q.1 : Int)) (256 + (q.2 : Int)) Q f s ∧ (∀ e ∈ Q, e.2.1 ∈ symsO o ∧ e.2.2 ∈ symsO o) ∧ Q.length ≤ 1 + 2 * s.length
noncomputable def muA (Q : List Trip) (s : List Int) : Nat := 3 * (16 - s.length) + Q.length

theorem name_sym {o j : Nat} (h : j < 4) : 256 + (j : Int) ∈ symsO o := syms_mem.mpr (.inr (.inr (by first | lia | omega)))
theorem JA.start {br : Nat → List Int} {o : Nat} {q : Nat × Nat} (hq : q.1 < 4 ∧ q.2 < 4) : JA br o q [([], 256 + (q.1 : Int), 256 + (q.2 : Int))] none [] :=
  ⟨.start (.inr ⟨_, hq.1, rfl⟩) (.inr ⟨_, hq.2, rfl⟩), fun e he => by rw [List.mem_singleton.mp he]; exact ⟨name_sym hq.1, name_sym hq.2⟩, by simp⟩
theorem flat_len {W : Int → Str} : ∀ Q : List Trip, (flat W Q).length = 3 * Q.length
  | [] => rfl
  | t :: Q => by
    have := flat_len (W := W) Q
    simp only [flat, List.flatMap_cons, List.length_append, tw, List.length_cons, List.length_nil] at this ⊢
    first | lia | omega
theorem newQ_len {r : List Nat} {bx bz : List Int} : (newQ r bx bz).length = min bx.length bz.length := by simp [newQ]

theorem JA.turn {br : Nat → List Int} (G : GOk br) {o : Nat} (hSy : ∀ k, k < 4 → ∀ s ∈ br k, s ∈ symsO o ∧ s ≠ 0) {W : Int → Str} {q : Nat × Nat} {r : List Nat} {x y : Int} {Q : List Trip} {f : Option (List Nat)} {s : List Int} (J : JA br o q ((r, x, y) :: Q) f s) :
    x ∈ symsO o ∧ y ∈ symsO o ∧ r.length ≤ 1000 ∧ s.length < 1000 ∧ (flat W ((r, x, y) :: Q)).length < 2 ^ 20 ∧ JA br o q (Q ++ turnQ br r x y f s) (turnF br r x y f s) (turnS r x y f s) ∧ muA (Q ++ turnQ br r x y f s) (turnS r x y f s) < muA ((r, x, y) :: Q) s := by
  obtain ⟨J1, J2, J3⟩ := J
  have hl := J1.seen_len
  have h1 := J2 _ List.mem_cons_self
  have h2 := (J1.sym _ List.mem_cons_self)
  simp only at h1 h2
  have J' := J1.turn G
  have hl' := J'.seen_len
  rw [List.length_cons] at J3
  refine ⟨h1.1, h1.2, by first | lia | omega, by first | lia | omega, by rw [flat_len, List.length_cons]; first | lia | omega, ⟨J', fun e he => ?_, ?_⟩, ?_⟩
  · rcases List.mem_append.mp he with he | he
    · exact J2 e (List.mem_cons_of_mem _ he)
    · unfold turnQ at he
      split at he
      · rename_i hg
        obtain ⟨_, gx, gy, _⟩ := hg
        obtain ⟨jx, hjx, rfl⟩ : ∃ j : Nat, j < 4 ∧ x = 256 + (j : Int) := h2.1.elim (fun h => by first | lia | omega) id
        obtain ⟨jy, hjy, rfl⟩ : ∃ j : Nat, j < 4 ∧ y = 256 + (j : Int) := h2.2.1.elim (fun h => by first | lia | omega) id
        obtain ⟨i, k1, k2, rfl⟩ := newQ_mem.mp he
        rw [nm_ix (j := jx)] at k1 ⊢
        rw [nm_ix (j := jy)] at k2 ⊢
        exact ⟨(hSy jx hjx _ (getD_mem k1)).1, (hSy jy hjy _ (getD_mem k2)).1⟩
      · cases he
  all_goals
    unfold turnQ turnS at *
    split
    · rename_i hg
      rw [if_pos hg] at hl'
      obtain ⟨_, gx, gy, _⟩ := hg
      obtain ⟨jx, hjx, rfl⟩ : ∃ j : Nat, j < 4 ∧ x = 256 + (j : Int) := h2.1.elim (fun h => by first | lia | omega) id
      obtain ⟨jy, hjy, rfl⟩ : ∃ j : Nat, j < 4 ∧ y = 256 + (j : Int) := h2.2.1.elim (fun h => by first | lia | omega) id
      have b1 := G.len jx hjx
      have e1 := newQ_len (r := r) (bx := br (256 + (jx : Int) - 256).toNat) (bz := br (256 + (jy : Int) - 256).toNat)
      rw [nm_ix (j := jx)] at e1 ⊢
      simp only [muA, List.length_append, List.length_cons, List.length_nil] at *
      first | lia | omega
    · simp only [muA, List.length_append, List.length_cons, List.length_nil] at *
      first | lia | omega

theorem JA.fin {br : Nat → List Int} (G : GOk br) {o : Nat} {q : Nat × Nat} (hq : q.1 < 4 ∧ q.2 < 4) {f : Option (List Nat)} {s : List Int} (J : JA br o q [] f s) : f = due br q := by
  cases f with
  | none => exact (due_none fun t ht hd => by obtain ⟨e, he, _⟩ := J.1.live rfl t ht hd; cases he).symm
  | some r =>
    obtain ⟨h1, h2, h3⟩ := J.1.dead r rfl
    exact (due_some G hq h1 h2 h3).symm

theorem road_ok {r : List Nat} (h : ∀ d ∈ r, d < 2) : PyData.strOk (roadS r) = true := by
  simp only [PyData.strOk, roadS, List.all_toArray, List.all_eq_true, List.mem_map, decide_eq_true_eq]
  rintro c ⟨d, hd, rfl⟩
  have := h d hd
  first | lia | omega
theorem word_ok {i o : Nat} (hi : i < 6) (ho : OthOk o) {s : Int} (hs : s ∈ symsO o) : PyData.strOk (W2 i o s) = true := by
  obtain ⟨k, h1, h2, _, h4, _⟩ := sym_ix hi ho hs
  rw [h4]
  have : (wordsI i).all PyData.strOk = true := by rcases six hi with rfl | rfl | rfl | rfl | rfl | rfl <;> decide +kernel
  exact List.all_eq_true.mp this _ (List.getElem_mem h2)
theorem JA.strs {br : Nat → List Int} {i o : Nat} (hi : i < 6) (ho : OthOk o) {q : Nat × Nat} {Q : List Trip} {f : Option (List Nat)} {s : List Int} (J : JA br o q Q f s) : StrsOk (flat (W2 i o) Q) := fun v hv => by
  obtain ⟨t, ht, hv⟩ := List.mem_flatMap.mp hv
  have h1 := (J.1.sym t ht).2.2.1
  have h2 := J.2.1 t ht
  simp only [tw, List.mem_cons, List.not_mem_nil, or_false] at hv
  rcases hv with rfl | rfl | rfl
  · exact ⟨_, rfl, road_ok h1⟩
  · exact ⟨_, rfl, word_ok hi ho h2.1⟩
  · exact ⟨_, rfl, word_ok hi ho h2.2⟩
end Mine
namespace Mine
open PySem PyProof.Rows

theorem enc_good : ∀ c ∈ cases672, (∀ x ∈ enc c, x < 0x110000) ∧ enc c ≠ [] := by
  have : cases672.all (fun c => (enc c).all (fun x => decide (x < 0x110000)) && !(enc c).isEmpty) = true := by kernel_rfl
  intro c hc
  have := List.all_eq_true.mp this c hc
  simp only [Bool.and_eq_true, List.all_eq_true, decide_eq_true_eq, Bool.not_eq_true', List.isEmpty_eq_false_iff] at this
  exact this
theorem last_good {c : Str × Nat × Nat} (hc : c ∈ cases672) {n : Nat} : token (enc c).dropLast n = (c.1.cps.toList, [], n + ((enc c).dropLast).count 10) := List.map_inj_left.mp token_last c hc
theorem txt_of {W : Int → Str} : ∀ (cs : List (Str × Nat × Nat)) (ss : List Int), (∀ c ∈ cs, c ∈ cases672) → cs.map (·.1) = ss.map W → cs ≠ [] → 30 * cs.length < 2 ^ 20 → Txt W (cs.flatMap enc).dropLast ss
  | [], _, _, _, h, _ => absurd rfl h
  | c :: cs, [], _, h, _, _ => by simp at h
  | c :: cs, s :: ss, hc, hm, _, hl => by
    simp only [List.map_cons, List.cons.injEq] at hm
    obtain ⟨hm1, hm2⟩ := hm
    have hcc := hc c List.mem_cons_self
    have hc' : ∀ d ∈ cs, d ∈ cases672 := fun d hd => hc d (List.mem_cons_of_mem _ hd)
    have hlen := encs_len hc
    refine ⟨⟨fun x hx => ?_, ?_⟩, ?_⟩
    · obtain ⟨d, hd, hx⟩ := List.mem_flatMap.mp (List.dropLast_subset _ hx)
      exact (enc_good d (hc d hd)).1 x hx
    · rw [List.length_dropLast]; first | lia | omega
    · cases cs with
      | nil =>
        have : ss = [] := by simpa using hm2.symm
        subst this
        have e1 : (List.flatMap enc [c]).dropLast = (enc c).dropLast := by simp
        rw [e1]
        refine ⟨[], 0 + ((enc c).dropLast).count 10, ?_, ?_, rfl⟩
        · rw [← hm1]
          exact last_good hcc
        · simp
      | cons d ds =>
        have hne : (d :: ds).flatMap enc ≠ [] := by
          rw [List.flatMap_cons]
          exact fun e => (enc_good d (hc' d List.mem_cons_self)).2 (List.append_eq_nil_iff.mp e).1
        have hd : ((c :: d :: ds).flatMap enc).dropLast = enc c ++ ((d :: ds).flatMap enc).dropLast := by
          rw [List.flatMap_cons, List.dropLast_append_of_ne_nil hne]
        rw [hd]
        refine ⟨((d :: ds).flatMap enc).dropLast, 0 + (enc c).count 10, by rw [← hm1]; exact token_all hcc, ?_, txt_of (d :: ds) ss hc' hm2 (by simp) (by simp only [List.length_cons] at hl ⊢; first | lia | omega)⟩
        rw [List.count_append]; first | lia | omega

/-- the lexer stands ahead of these symbols' words -/
structure LS (W : Int → Str) (s : Sto) (l lf : Nat) (tot : Int) (ss : List Int) : Prop where
  st : ∃ ln cs, s.get l = some (.lexer ln lf []) ∧ s.get lf = some (.list (chars cs)) ∧ Txt W cs ss ∧ ln + (cs.count 10 : Nat) = tot
  l1 : l < s.nx
  l2 : lf < s.nx
  tab : ∃ b, s.get 0 = some (.tab b)
theorem LS.keep {W : Int → Str} {s s' : Sto} {l lf : Nat} {tot : Int} {ss : List Int} (h : LS W s l lf tot ss) (k : Keep s.nx s s') : LS W s' l lf tot ss :=
  ⟨let ⟨ln, cs, a, b, c, d⟩ := h.st; ⟨ln, cs, k.get h.l1 a, k.get h.l2 b, c, d⟩, Nat.lt_of_lt_of_le h.l1 k.2, Nat.lt_of_lt_of_le h.l2 k.2, h.tab.imp fun _ e => k.get (Nat.lt_of_le_of_lt (Nat.zero_le _) h.l1) e⟩
theorem LS.get {W : Int → Str} {n : Nat} {s : Sto} {l lf : Nat} {tot : Int} {x : Int} {ss : List Int} (h : LS W s l lf tot (x :: ss)) : ∃ s', resM s (.loc l) "get_token" = some (.lex "get_token") ∧ F (n + 1) "get_token" [.loc l] s = some (.str (W x), s') ∧ LS W s' l lf tot ss := by
  obtain ⟨ln, cs, g1, g2, ht, hc⟩ := h.st
  obtain ⟨cs', ln', e, t', c'⟩ := get_sym (n := n) g1 g2 ht
  obtain ⟨b, eb⟩ := h.tab
  have hll : lf ≠ l := by rintro rfl; rw [g1] at g2; cases g2
  exact ⟨_, res_get g1, e, ⟨_, cs', lexAt_get, lexAt_left hll, t', by first | lia | omega⟩, h.l1, h.l2, b, ((upd_ne (fun q => by rw [q, g1] at eb; cases eb)).trans (upd_ne (fun q => by rw [q, g2] at eb; cases eb))).trans eb⟩

theorem eqvAll_same {α : Type} {h : α → PyData} (r : ∀ x, PyData.eqv (h x) (h x) = true) {xs : List α} : PyData.eqvAll (xs.map h) (xs.map h) = true := by
  induction xs with
  | nil => rfl
  | cons x xs ih =>
    show (PyData.eqv (h x) (h x) && PyData.eqvAll (xs.map h) (xs.map h)) = true
    rw [r, ih]; rfl
theorem list_same {α : Type} {f : α → AV} {h : α → PyData} (e : ∀ x, toPy 7 (f x) = some (h x)) (r : ∀ x, PyData.eqv (h x) (h x) = true) {σ : Sto} {xs : List α} : cmpA σ .NotEq (.list (xs.map f)) (.list (xs.map f)) = some false := by
  have h1 : toPy 8 (.list (xs.map f)) = some (.list (xs.map h)) := by
    show ((toPys 7 (xs.map f)).bind fun ds => some (PyData.list ds)) = _
    rw [show toPys 7 (xs.map f) = _ from mapO_all e]; rfl
  show (((toPy 8 (.list (xs.map f))).bind fun a => (toPy 8 (.list (xs.map f))).bind fun b => some (PyData.eqv a b)).bind fun b => some !b) = _
  rw [h1]
  show some (!PyData.eqvAll (xs.map h) (xs.map h)) = _
  rw [eqvAll_same r]; rfl
theorem rules_same {br : Nat → List Int} {σ : Sto} {ks : List Nat} : cmpA σ .NotEq (.list (ks.map (ruleA br))) (.list (ks.map (ruleA br))) = some false :=
  list_same (h := fun k => .list ((ruleZ br k).map PyData.int)) (fun k => by
    show ((toPys 6 ((ruleZ br k).map AV.int)).bind fun ds => some (PyData.list ds)) = _
    rw [toPys_ints]; rfl) fun k => eqvAll_same fun x => by rw [PyData.eqv]; exact beq_self_eq_true x

/-- the rules are read as they were meant -/
theorem law_read {n : Nat} {m : Fm} {σ : Sto} {i o l lf : Nat} {tot : Int} {br : Nat → List Int} {rest : List Int} (hi : i < 6) (ho : OthOk o) (hb2 : ∀ k, k < 4 → (br k).length ≤ 2) (hsy : ∀ k, k < 4 → ∀ s ∈ ruleZ br k, s ∈ symsO o) (h1 : m "rules" = some (rulesA br)) (h2 : m "lexer" = some (.loc l)) (h3 : m "told" = some (toldA i o)) (hL : LS (W2 i o) σ l lf tot (rsyms br ++ rest))
    {P : Fl × Fm × Sto → Prop} (hP : ∀ σ', LS (W2 i o) σ' l lf tot rest → P (.next, m, σ')) : Sat (ex cfgP (F (n + 1)) (lawSt 15) scL m σ) P := by
  have hw := wok hi ho
  generalize toldA i o = told at *
  generalize writtenA i o = wr at *
  refine x_if <| t_cmp <| q_listcomp (by kernel_rfl) <| q_src rfl <| q_name (Eq.trans (b := m "rules") (by kernel_rfl) h1) ?_
  refine compA_inv (xs := (List.range 4).map (ruleA br)) (I := fun k b => b.1 = ⟨.ki [], ((List.range 4).take k).map (ruleA br)⟩ ∧ LS (W2 i o) b.2 l lf tot (((List.range 4).drop k).flatMap (ruleZ br) ++ rest)) ⟨by kernel_rfl, by kernel_rfl⟩ ⟨rfl, hL⟩ (fun k b h => rfl) (fun b h => ?_) (fun k b hk h => ?_)
  · obtain ⟨acc, σ'⟩ := b
    obtain ⟨e1, e2⟩ := h
    simp only at e1 e2
    subst e1
    have e3 : ((List.range 4).take ((List.range 4).map (ruleA br)).length) = List.range 4 := by simp
    have e4 : ((List.range 4).drop ((List.range 4).map (ruleA br)).length) = [] := by simp
    rw [e4] at e2
    simp only
    rw [e3, mkL_f (by kernel_rfl)]
    refine q_name (Eq.trans (b := m "rules") (by kernel_rfl) h1) <| .eq rules_same ?_
    rw [if_neg (by simp)]
    exact x_nil (hP _ e2)
  · obtain ⟨acc, σ'⟩ := b
    obtain ⟨e1, e2⟩ := h
    simp only at e1 e2
    subst e1
    have hk4 : k < 4 := by simpa using hk
    have hkr : k < (List.range 4).length := hk4
    have ed : (List.range 4).drop k = k :: (List.range 4).drop (k + 1) := by rw [List.drop_eq_getElem_cons hkr, List.getElem_range]
    rw [ed, List.flatMap_cons, List.append_assoc] at e2
    have ex0 : ((List.range 4).map (ruleA br))[k]'hk = ruleA br k := by simp
    have et : (List.range 4).take (k + 1) = (List.range 4).take k ++ [k] := by rw [take_snoc hkr, List.getElem_range]
    rw [ex0]
    have hl4 : (ruleZ br k).length ≤ 4 := by have := hb2 k hk4; simp [ruleZ]; first | lia | omega
    refine .eq (a := (inner _ m).set "rule" (ruleA br k)) rfl <| t_trs0 ?_
    rw [if_pos rfl]
    refine q_gens0 <| q_emitL <| q_listcomp (by kernel_rfl) <| q_src rfl <| q_name (v := ruleA br k) (by kernel_rfl) ?_
    refine compA_inv (xs := (ruleZ br k).map AV.int) (I := fun j b => b.1 = ⟨.ki [], ((ruleZ br k).take j).map AV.int⟩ ∧ LS (W2 i o) b.2 l lf tot ((ruleZ br k).drop j ++ (((List.range 4).drop (k + 1)).flatMap (ruleZ br) ++ rest))) ⟨by kernel_rfl, by kernel_rfl⟩ ⟨rfl, e2⟩ (fun k b h => rfl) (fun b h => ?_) (fun j b hj h => ?_)
    · obtain ⟨acc, σ2⟩ := b
      obtain ⟨f1, f2⟩ := h
      simp only at f1 f2
      subst f1
      have e5 : (ruleZ br k).take ((ruleZ br k).map AV.int).length = ruleZ br k := by rw [List.length_map, List.take_length]
      rw [e5]
      rw [List.length_map, List.drop_length, List.nil_append] at f2
      refine ⟨by simp; first | lia | omega, ?_, f2⟩
      show (⟨.ki [], ((List.range 4).take k).map (ruleA br) ++ [(mkL cfgP _ ((ruleZ br k).map AV.int) σ2).1]⟩ : Acc) = _
      rw [mkL_f (by kernel_rfl), et, List.map_append]
      rfl
    · obtain ⟨acc, σ2⟩ := b
      obtain ⟨f1, f2⟩ := h
      simp only at f1 f2
      subst f1
      have hj' : j < (ruleZ br k).length := by simpa using hj
      have hsj := hsy k hk4 _ (List.getElem_mem hj')
      have etj := take_snoc hj'
      rw [List.drop_eq_getElem_cons hj', List.cons_append] at f2
      rw [List.getElem_map]
      generalize (ruleZ br k)[j] = s at *
      refine .eq (a := (inner _ ((inner _ m).set "rule" (ruleA br k))).set "symbol" (.int s)) rfl <| t_trs0 ?_
      rw [if_pos rfl]
      obtain ⟨σ3, r1, r2, r3⟩ := f2.get (n := n)
      refine q_gens0 <| q_emitL <| q_call rfl (g := .glob "_law_symbol") (by kernel_rfl) <| q_cons <| q_meth (by decide) <| q_name (Eq.trans (b := m "lexer") (by kernel_rfl) h2) <| .eq r1 <| q_nil <| .eq r2 <| q_cons <| q_name (Eq.trans (b := m "told") (by kernel_rfl) h3) <| q_nil <| .eq (hw.sym (n := n) hsj) ⟨?_, ?_, r3.keep (Keep.upto (Nat.le_refl _))⟩
      · simp; first | lia | omega
      · simp only
        rw [etj, List.map_append]
        rfl
end Mine
namespace Mine
open PySem PyProof.Rows

theorem call_list {Φ : Fns} {p : Pos} {σ : Sto} {cs : List Nat} (hp : cfgP.mu p = true) (hl : cs.length ≤ 2 ^ 20) : callV cfgP Φ p (.bi .list) [.str ⟨cs.toArray⟩] σ = some (.loc σ.nx, σ.new (.list (chars cs))) := by
  show (if cs.toArray.size ≤ 2 ^ 20 then some (mkL cfgP p (cs.toArray.toList.map fun c => AV.str ⟨#[c]⟩) σ) else none) = _
  rw [if_pos (by simpa using hl), mkL, if_pos hp]
  rfl
theorem call_stream {n l : Nat} {σ : Sto} (h0 : σ.get 0 = some (.tab true)) (h1 : l < σ.nx ∧ l ≠ 0) : F (n + 1) "_law_stream" [.loc l] σ = some (.stream l, σ.upd 0 (.tab false)) := by
  show (match σ.get 0 with
    | some (.tab true) => if l < σ.nx ∧ l ≠ 0 then some (AV.stream l, σ.upd 0 (.tab false)) else none
    | _ => none) = _
  rw [h0]
  show (if _ then _ else none) = _
  rw [if_pos h1]
theorem call_lexer {n l : Nat} {σ : Sto} : F (n + 1) "_netrclex" [.stream l] σ = some (.loc σ.nx, σ.new (.lexer 1 l [])) := by kernel_rfl

theorem law_lexer {n : Nat} {m : Fm} {σ : Sto} {W : Int → Str} {cs : List Nat} {ss : List Int} (h1 : m "text" = some (.str ⟨cs.toArray⟩)) (hl : cs.length ≤ 2 ^ 20) (h0 : σ.get 0 = some (.tab true)) (hn : 0 < σ.nx) (ht : Txt W cs ss)
    {P : Fl × Fm × Sto → Prop} (hP : ∀ l lf σ', LS W σ' l lf (1 + (cs.count 10 : Nat)) ss → P (.next, m.set "lexer" (.loc l), σ')) : Sat (ex cfgP (F (n + 1)) (lawSt 14) scL m σ) P := by
  refine x_assign rfl (by kernel_rfl) <| q_call rfl (g := .glob "_netrclex") (by kernel_rfl) <| q_cons <| q_call rfl (g := .glob "_law_stream") (by kernel_rfl) <| q_cons <| q_call rfl (g := .bi .list) (by kernel_rfl) <| q_cons <| q_name (Eq.trans (b := m "text") (by kernel_rfl) h1) <| q_nil <| .eq (call_list (by kernel_rfl) hl) <| q_nil ?_
  have k1 : Keep σ.nx σ (σ.new (.list (chars cs))) := Keep.new (Nat.le_refl _)
  refine .eq (call_stream (n := n) (k1.get hn h0) ⟨Nat.lt_succ_self _, Nat.ne_of_gt hn⟩) <| q_nil <| .eq (call_lexer (n := n)) ?_
  refine hP _ σ.nx _ ⟨⟨1, cs, new_get, ?_, ht, by first | lia | omega⟩, Nat.lt_succ_self _, Nat.lt_succ_of_lt (Nat.lt_succ_self _), false, ?_⟩
  · have e1 : ((σ.new (.list (chars cs))).upd 0 (.tab false)).get σ.nx = some (.list (chars cs)) := (upd_ne (Nat.ne_of_gt hn)).trans new_get
    exact (Keep.new (o := .lexer 1 σ.nx []) (Nat.le_refl _)).get (Nat.lt_succ_self σ.nx) e1
  · have e1 : ((σ.new (.list (chars cs))).upd 0 (.tab false)).get 0 = some (.tab false) := upd_at
    exact (Keep.new (o := .lexer 1 σ.nx []) (Nat.le_refl _)).get (Nat.zero_lt_succ σ.nx) e1

theorem law_leads {Φ : Fns} {m : Fm} {σ : Sto} {br : Nat → List Int} (h1 : m "rules" = some (rulesA br)) {P : Fl × Fm × Sto → Prop} (hP : P (.next, m.set "leads" (leadsA br), σ)) : Sat (ex cfgP Φ (lawSt 16) scL m σ) P := by
  refine x_assign rfl (by kernel_rfl) <| q_dictcomp (by kernel_rfl) <| q_src rfl <| q_name (Eq.trans (b := m "rules") (by kernel_rfl) h1) ?_
  refine compA_inv (xs := (List.range 4).map (ruleA br)) (I := fun k b => b = (⟨.ki (((List.range 4).take k).map fun (k : Nat) => 256 + (k : Int)), ((List.range 4).take k).map (ruleA br)⟩, σ)) ⟨by kernel_rfl, by kernel_rfl⟩ rfl (fun k b h => rfl) (fun b h => ?_) (fun k b hk h => ?_)
  · subst h
    exact hP
  · subst h
    have hk4 : k < 4 := by simpa using hk
    have ex0 : ((List.range 4).map (ruleA br))[k]'hk = ruleA br k := by simp
    rw [ex0]
    refine .eq (a := (inner _ m).set "rule" (ruleA br k)) rfl <| t_trs0 ?_
    rw [if_pos rfl]
    refine q_gens0 <| q_emitD <| q_sub rfl <| q_name (v := ruleA br k) (by kernel_rfl) <| .eq rfl <| .eq (a := .int (256 + (k : Int))) (getA_list (i := 0) rfl) <| q_name (v := ruleA br k) (by kernel_rfl) <| .eq (a := (.ki (((List.range 4).take (k + 1)).map fun (k : Nat) => 256 + (k : Int)), ((List.range 4).take (k + 1)).map (ruleA br))) ?_ rfl
    have : k = 0 ∨ k = 1 ∨ k = 2 ∨ k = 3 := or4 (by first | assumption | lia | omega)
    rcases this with rfl | rfl | rfl | rfl <;> kernel_rfl

noncomputable def duePy : Option (List Nat) → PyData
  | none => .none
  | some ds => .str (roadS ds)
theorem getD_bits (k : Nat) : ∀ d ∈ roads15.getD k [], d < 2 := by
  by_cases h : k < 15
  · exact (roads_bits _ (roads_mem h)).1
  · have : roads15[k]? = none := List.getElem?_eq_none (by show 15 ≤ k; first | lia | omega)
    simp [List.getD, this]
theorem toPy_due {br : Nat → List Int} {q : Nat × Nat} : toPy 7 (dueA (due br q)) = some (duePy (due br q)) := by
  unfold due
  cases (List.range 15).find? (pk br q) with
  | none => rfl
  | some k =>
    show (if PyData.strOk (roadS (roads15.getD k [])) = true then some (PyData.str (roadS (roads15.getD k []))) else none) = _
    rw [if_pos (road_ok (getD_bits k))]
    rfl
theorem due_same {br : Nat → List Int} {σ : Sto} {qs : List (Nat × Nat)} : cmpA σ .NotEq (.list (qs.map fun q => dueA (due br q))) (.list (qs.map fun q => dueA (due br q))) = some false :=
  list_same (h := fun q => duePy (due br q)) (fun q => toPy_due) fun q => by
    cases due br q with
    | none => rfl
    | some ds => exact beq_self_eq_true (roadS ds)

theorem law_answ {n : Nat} {m : Fm} {σ : Sto} {i o l lf : Nat} {tot : Int} {br : Nat → List Int} {qs : List (Nat × Nat)} (hi : i < 6) (ho : OthOk o) (G : GOk br) (hSy : ∀ k, k < 4 → ∀ s ∈ br k, s ∈ symsO o ∧ s ≠ 0) (hq : ∀ q ∈ qs, q.1 < 4 ∧ q.2 < 4) (hq9 : qs.length ≤ 9)
    (h1 : m "lexer" = some (.loc l)) (h2 : m "leads" = some (leadsA br)) (h3 : m "told" = some (toldA i o)) (h4 : m "written" = some (writtenA i o)) (h5 : m "questions" = some (.list (qs.map qA))) (hL : LS (W2 i o) σ l lf tot (qsyms qs))
    {P : Fl × Fm × Sto → Prop} (hP : ∀ σ', σ'.get l = some (.lexer tot lf []) → (∃ b, σ'.get 0 = some (.tab b)) → P (.next, m, σ')) : Sat (ex cfgP (F (n + 2)) (lawSt 17) scL m σ) P := by
  obtain ⟨ln, cs, g1, g2, ht, hc⟩ := hL.st
  have hNt : ∀ x, x ∈ symsO o → 256 ≤ x → ∃ j : Nat, j < 4 ∧ x = 256 + (j : Int) := fun x hx hx6 => by
    unfold OthOk at ho
    rcases syms_mem.mp hx with h | h | h
    · first | lia | omega
    · rcases kinds_mem.mp h with h | h <;> first | lia | omega
    · exact ⟨(x - 256).toNat, by first | lia | omega, by first | lia | omega⟩
  have hans := call_answers (n := n) (res := due br) (J := JA br o) (μ := muA) (σ := σ) G (wok hi ho) hSy hNt (fun j hj => name_sym hj) (syms_mem.mpr (.inl rfl)) W2_zero hq (by first | lia | omega) (fun q hqm => .start (hq q hqm)) (fun q hqm => by simp [muA]) (fun q hqm Q f s J => J.strs hi ho) (fun q hqm r x y Q f s J => J.turn G hSy) (fun q hqm f s J => J.fin G (hq q hqm)) g1 g2 hL.l1 hL.l2 hL.tab ht
  generalize toldA i o = told at *
  generalize writtenA i o = wr at *
  refine x_if <| t_cmp <| q_call rfl (g := .glob "_law_answers") (by kernel_rfl) <| q_cons <| q_name (Eq.trans (b := m "lexer") (by kernel_rfl) h1) <| q_cons <| q_name (Eq.trans (b := m "leads") (by kernel_rfl) h2) <| q_cons <| q_name (Eq.trans (b := m "told") (by kernel_rfl) h3) <| q_cons <| q_name (Eq.trans (b := m "written") (by kernel_rfl) h4) <| q_nil <| hans.mono fun z hz => ?_
  obtain ⟨v, σ2⟩ := z
  obtain ⟨e1, e2, e3, e4⟩ := hz
  simp only at e1 e2 e3 e4
  subst e1
  refine q_call rfl (g := .glob "_law_due") (by kernel_rfl) <| q_cons <| q_name (Eq.trans (b := m "leads") (by kernel_rfl) h2) <| q_cons <| q_name (Eq.trans (b := m "questions") (by kernel_rfl) h5) <| q_nil <| (call_due (n := n) (σ := σ2) G hq (by first | lia | omega)).mono fun z hz => ?_
  obtain ⟨v, σ3⟩ := z
  obtain ⟨f1, f2⟩ := hz
  simp only at f1 f2
  subst f1
  refine .eq due_same ?_
  rw [if_neg (by simp)]
  have hl2 : l < σ2.nx := Nat.lt_of_lt_of_le hL.l1 e4
  refine x_nil (hP _ ?_ (e3.imp fun _ e => f2.get (Nat.lt_of_le_of_lt (Nat.zero_le _) hl2) e))
  rw [hc] at e2
  exact f2.get hl2 e2

theorem law_last {Φ : Fns} {m : Fm} {σ : Sto} {l lf : Nat} {cs : List Nat} (h1 : m "lexer" = some (.loc l)) (h2 : m "text" = some (.str ⟨cs.toArray⟩)) (h3 : σ.get l = some (.lexer (1 + (cs.count 10 : Nat)) lf [])) {P : Fl × Fm × Sto → Prop} (hP : P (.ret (.bool true), m, σ)) : Sat (ex cfgP Φ (lawSt 18) scL m σ) P := by
  refine x_return <| q_cmp <| q_attr (by decide) <| q_name (Eq.trans (b := m "lexer") (by kernel_rfl) h1) <| .eq (a := .int (1 + (cs.count 10 : Nat))) ?_ <| q_bin <| .eq rfl <| q_meth (by decide) <| q_name (Eq.trans (b := m "text") (by kernel_rfl) h2) <| .eq (a := .count) (by kernel_rfl) <| q_cons <| .eq rfl <| q_nil <| .eq (a := (.int (cs.count 10 : Nat), σ)) (by kernel_rfl) <| .eq rfl <| .eq (a := true) ?_ hP
  · show (match σ.get l with
      | some (.lexer i _ _) => if (Str.ofString "lineno") = "lineno" then some (AV.int i) else if (Str.ofString "lineno") = "whitespace" then some (.str ⟨#[10, 9, 13, 32]⟩) else none
      | _ => none) = _
    rw [h3]; rfl
  · show some (PyData.eqv (.int _) (.int _)) = _
    simp [PyData.eqv]
end Mine
namespace Mine
open PySem PyProof.Rows

theorem five {α : Type} {l : List α} (h : l.length = 5) : ∃ a b c d e, l = [a, b, c, d, e] := by
  match l, h with
  | [a, b, c, d, e], _ => exact ⟨a, b, c, d, e, rfl⟩

theorem law_pure {zs : List Int} (hlen : zs.length ≤ 63) : Sat (F 10 "law" [.list (zs.map AV.int)] σ₀) fun r => r.1 = .bool true ∧ ∃ b, r.2.get 0 = some (.tab b) := by
  rw [F_def (i := 64) (by decide) (by kernel_rfl)]
  refine sat_call (by kernel_rfl) ?_
  have h0 : (fun x => ((defP 64).params.zip [AV.list (zs.map AV.int)]).lookup x : Str → Option AV) "script" = some (.list (zs.map AV.int)) := by kernel_rfl
  generalize (fun x => ((defP 64).params.zip [AV.list (zs.map AV.int)]).lookup x : Str → Option AV) = m0 at *
  refine x_cons (by kernel_rfl) <| law_numbers (zs := zs) h0 hlen ?_
  obtain ⟨n0, n1, n2, n3, n4, en⟩ := five (numsOf_len (zs := zs))
  rw [en]
  have a1 : (Fm.set m0 "numbers" (.list (([n0, n1, n2, n3, n4] : List Int).map AV.int))) "numbers" = some (n5 n0 n1 n2 n3 n4) := by kernel_rfl
  have a2 : (Fm.set m0 "numbers" (.list (([n0, n1, n2, n3, n4] : List Int).map AV.int))) "script" = some (.list (zs.map AV.int)) := Eq.trans (b := m0 "script") (by kernel_rfl) h0
  generalize (Fm.set m0 "numbers" (.list (([n0, n1, n2, n3, n4] : List Int).map AV.int))) = m at *
  refine x_cons (by kernel_rfl) <| law_other a1 fun o ho => ?_
  refine x_cons (by kernel_rfl) <| law_signs ?_
  refine x_cons (by kernel_rfl) <| law_names (Eq.trans (b := m "numbers") (by kernel_rfl) a1) fun i hi => ?_
  refine x_cons (by kernel_rfl) <| law_kinds (o := o) (Eq.trans (b := m "numbers") (by kernel_rfl) a1) (by kernel_rfl) fun f hf => ?_
  refine x_cons (by kernel_rfl) <| law_told hi (o := o) (by kernel_rfl) (by kernel_rfl) ?_
  refine x_cons (by kernel_rfl) <| law_writ hi ho (by kernel_rfl) (by kernel_rfl) (by kernel_rfl) ?_
  refine x_cons (by kernel_rfl) <| law_symbols (o := o) hf (Eq.trans (b := m "numbers") (by kernel_rfl) a1) (by kernel_rfl) (by kernel_rfl) fun a b ha hb => ?_
  refine x_cons (by kernel_rfl) <| x_assign rfl (by kernel_rfl) <| .eq (a := (.loc 1, σ₀.new (.list []))) (by kernel_rfl) ?_
  refine x_cons (by kernel_rfl) <| law_rules (sy := [a, b, 256, 257, 258, 259]) (L := 1) rfl (Eq.trans (b := m "numbers") (by kernel_rfl) a1) (by kernel_rfl) (by kernel_rfl) (by kernel_rfl) fun m2 σ2 br f2 b2 g2 k2 => ?_
  have c1 : m2 "numbers" = some (n5 n0 n1 n2 n3 n4) := (f2 _ (by decide) (by decide)).trans (Eq.trans (b := m "numbers") (by kernel_rfl) a1)
  have c2 : m2 "script" = some (.list (zs.map AV.int)) := (f2 _ (by decide) (by decide)).trans (Eq.trans (b := m "script") (by kernel_rfl) a2)
  have c3 : m2 "told" = some (toldA i o) := (f2 _ (by decide) (by decide)).trans (by kernel_rfl)
  have c4 : m2 "written" = some (writtenA i o) := (f2 _ (by decide) (by decide)).trans (by kernel_rfl)
  have c5 : m2 "rules" = some (.loc 1) := (f2 _ (by decide) (by decide)).trans (by kernel_rfl)
  have z2 : σ2.get 0 = some (.tab true) := (k2.1 0 (by decide)).trans (by kernel_rfl)
  have x2 : 2 ≤ σ2.nx := k2.2
  clear f2 k2
  -- the rules are not written any more
  refine x_consF (x := "rules") (by kernel_rfl) c5 g2 <| law_quest (zs := zs) (Eq.trans (b := m2 "script") (by kernel_rfl) c2) hlen fun qs hq9 hq => ?_
  have z3 : (σ2.forget 1).get 0 = some (.tab true) := (Keep.forget (n := 1) (Nat.le_refl _)).get (by decide) z2
  have x3 : 2 ≤ (σ2.forget 1).nx := x2
  simp only
  generalize σ2.forget 1 = σ3 at *
  refine x_cons (by kernel_rfl) <| x_assign rfl (by kernel_rfl) <| .eq (a := (.loc σ3.nx, σ3.new (.list []))) (by kernel_rfl) ?_
  have hbr : ∀ k, k < 4 → ∀ s ∈ br k, s ∈ symsO o ∧ s ≠ 0 := fun k hk s hs => by
    have hs := (b2 k hk).2 s hs
    have ka : ∀ x, x ∈ kindsO o → x ≠ 0 := fun x hx => by
      unfold OthOk at ho
      rcases kinds_mem.mp hx with h | h <;> first | lia | omega
    simp only [List.mem_cons, List.not_mem_nil, or_false] at hs
    rcases hs with rfl | rfl | hs
    · exact ⟨syms_mem.mpr (.inr (.inl ha)), ka _ ha⟩
    · exact ⟨syms_mem.mpr (.inr (.inl hb)), ka _ hb⟩
    · exact ⟨syms_mem.mpr (.inr (.inr (by first | lia | omega))), by first | lia | omega⟩
  have G : GOk br := ⟨fun k hk => (b2 k hk).1, fun k hk s hs => by
    obtain ⟨h1, h2⟩ := hbr k hk s hs
    unfold OthOk at ho
    rcases syms_mem.mp h1 with h | h | h
    · exact absurd h h2
    · left
      rcases kinds_mem.mp h with h | h <;> first | lia | omega
    · exact .inr ⟨(s - 256).toNat, by first | lia | omega, by first | lia | omega⟩⟩
  have hrz : ∀ k, k < 4 → ∀ s ∈ ruleZ br k, s ∈ symsO o := fun k hk s hs => by
    rcases List.mem_cons.mp hs with rfl | hs
    · exact name_sym hk
    · rcases List.mem_append.mp hs with hs | hs
      · exact (hbr k hk s hs).1
      · rw [List.mem_singleton.mp hs]; exact syms_mem.mpr (.inl rfl)
  have hsy : ∀ s ∈ rsyms br ++ qsyms qs, s ∈ symsO o := fun s hs => by
    rcases List.mem_append.mp hs with hs | hs
    · obtain ⟨k, hk, hs⟩ := List.mem_flatMap.mp hs
      exact hrz k (List.mem_range.mp hk) s hs
    · obtain ⟨q, hqm, hs⟩ := List.mem_flatMap.mp hs
      have := hq q hqm
      simp only [List.mem_cons, List.not_mem_nil, or_false] at hs
      rcases hs with rfl | rfl
      · exact name_sym this.1
      · exact name_sym this.2
  refine x_cons (by kernel_rfl) <| law_texts (n := 8) (L := σ3.nx) (br := br) (qs := qs) hi ho G.len hq9 hsy (Eq.trans (b := m2 "numbers") (by kernel_rfl) c1) (Eq.trans (b := m2 "written") (by kernel_rfl) c4) (by kernel_rfl) (by kernel_rfl) (by kernel_rfl) new_get (Nat.lt_succ_self _) fun m4 σ4 cs f4 d1 d2 g4 k4 => ?_
  have e1 : m4 "rules" = some (rulesA br) := (f4 _ (by decide) (by decide)).trans (by kernel_rfl)
  have e2 : m4 "questions" = some (.list (qs.map qA)) := (f4 _ (by decide) (by decide)).trans (by kernel_rfl)
  have e3 : m4 "told" = some (toldA i o) := (f4 _ (by decide) (by decide)).trans (Eq.trans (b := m2 "told") (by kernel_rfl) c3)
  have e4 : m4 "written" = some (writtenA i o) := (f4 _ (by decide) (by decide)).trans (Eq.trans (b := m2 "written") (by kernel_rfl) c4)
  have e5 : m4 "texts" = some (.loc σ3.nx) := (f4 _ (by decide) (by decide)).trans (by kernel_rfl)
  have z4 : (σ4.forget σ3.nx).get 0 = some (.tab true) := (Keep.forget (n := σ3.nx) (Nat.le_refl _)).get (by first | lia | omega) (k4.get (by first | lia | omega) ((Keep.new (n := σ3.nx) (Nat.le_refl _)).get (by first | lia | omega) z3))
  have x4 : 0 < (σ4.forget σ3.nx).nx := Nat.lt_of_lt_of_le (Nat.zero_lt_succ _) k4.2
  have hcl : cs.length ≤ 34 := by
    have h1 := congrArg List.length d2
    have h2 := rsyms_len G.len
    have h3 := qsyms_len qs
    simp only [List.length_map, List.length_append] at h1
    first | lia | omega
  have hne : cs ≠ [] := fun e => by
    have h1 := congrArg List.length d2
    rw [e] at h1
    simp [rsyms, ruleZ, List.range_succ] at h1
  refine x_consF (x := "texts") (by kernel_rfl) e5 g4 <| law_text (cs := cs) (by kernel_rfl) d1 (by first | lia | omega) ?_
  have hl := encs_len d1
  have ht := txt_of (W := W2 i o) cs _ d1 d2 hne (by first | lia | omega)
  have hl2 : ((cs.flatMap enc).dropLast).length ≤ 2 ^ 20 := by rw [List.length_dropLast]; first | lia | omega
  simp only
  generalize σ4.forget σ3.nx = σ5 at *
  generalize (cs.flatMap enc).dropLast = tx at *
  refine x_cons (by kernel_rfl) <| law_lexer (n := 8) (cs := tx) (by kernel_rfl) hl2 z4 x4 ht fun l lf σ6 L6 => ?_
  refine x_cons (by kernel_rfl) <| law_read (n := 8) (br := br) hi ho G.len hrz (Eq.trans (b := m4 "rules") (by kernel_rfl) e1) (by kernel_rfl) (Eq.trans (b := m4 "told") (by kernel_rfl) e3) L6 fun σ7 L7 => ?_
  refine x_cons (by kernel_rfl) <| law_leads (br := br) (Eq.trans (b := m4 "rules") (by kernel_rfl) e1) ?_
  refine x_cons (by kernel_rfl) <| law_answ (n := 7) (br := br) hi ho G hbr hq hq9 (by kernel_rfl) (by kernel_rfl) (Eq.trans (b := m4 "told") (by kernel_rfl) e3) (Eq.trans (b := m4 "written") (by kernel_rfl) e4) (Eq.trans (b := m4 "questions") (by kernel_rfl) e2) L7 fun σ8 g8 t8 => ?_
  refine x_cons (by kernel_rfl) <| law_last (cs := tx) (by kernel_rfl) (by kernel_rfl) g8 ⟨rfl, ?_⟩
  obtain ⟨b, eb⟩ := t8
  exact ⟨b, eb⟩
end Mine

theorem PySem.Challenge.cw_ph0119_02_holds : PySem.Challenge.rw_ph0119_02.Holds := by
  exact Mine.law02_of fun _ hlen => Mine.law_pure hlen
