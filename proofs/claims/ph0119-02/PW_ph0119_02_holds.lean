import PyProof.Rows.All
import PyProof.Lay0
import PyProof.CompFree
import PyProof.P3Statements
import PyProof.StrBlockL
import PyProof.WalksMore
import PyProof.ZipIter
import OpenK.KDescr
import Open.Row
import KE.KNest
import KE.KLam
import KE.KNestM
import KE.KSuperObj
import Wide.FinOn
import OpenK.AllK
import Wide.All
import Lean
import PySem.Challenge.RW_ph0119_02
set_option Elab.async false
namespace Mine
open PySem
inductive Keys where
  | ki (l : List Int)
  | ks (l : List Str)
  deriving Inhabited
inductive AV where
  | none
  | bool (b : Bool)
  | int (i : Int)
  | str (s : Str)
  | list (xs : List AV)
  | tuple (xs : List AV)
  | dict (ks : Keys) (vs : List AV)
  | range (a b : Int)
  | loc (l : Nat)
  | stream (l : Nat)
  | glob (n : Str)
  | bi (n : Str)
  | opq (a : Nat)
  deriving Inhabited
inductive AObj where
  | list (xs : List AV)
  | dict (ks : Keys) (vs : List AV)
  | lexer (lineno : Int) (left : Nat) (push : List AV)
  | tab (fresh : Bool)
  deriving Inhabited
structure Sto where
  get : Nat → Option AObj
  nx : Nat
def Sto.upd (σ : Sto) (l : Nat) (o : AObj) : Sto := { σ with get := fun k => if k = l then some o else σ.get k }
def Sto.new (σ : Sto) (o : AObj) : Sto := { get := fun k => if k = σ.nx then some o else σ.get k, nx := σ.nx + 1 }
def Sto.forget (σ : Sto) (l : Nat) : Sto := { σ with get := fun k => if k = l then none else σ.get k }
def Sto.upto (σ : Sto) (n : Nat) : Sto := { σ with get := fun k => if k < n then σ.get k else none }
abbrev Fm := Str → Option AV
def Fm.set (m : Fm) (x : Str) (v : AV) : Fm := fun y => if y = x then some v else m y
abbrev Fns := Str → List AV → Sto → Option (AV × Sto)
inductive Fl where
  | next | brk | cont
  | ret (v : AV)
  deriving Inhabited
structure Cfg where
  glob : Str → Option AV
  mu : Pos → Bool
  fz : Pos → List Str
  sk : Pos → Bool
  fuel : Nat
  sets : Bool
def look (c : Cfg) (sc : Scope) (m : Fm) (x : Str) : Option AV :=
  if x = "__debug__" ∨ x = "__classdict__" then none else
  match sc.names.lookup x with
  | some .local | some .cell | some .free => m x
  | some .globalImplicit => c.glob x
  | _ => none
/-- the items of a sequence, as they stand -/
def items? (σ : Sto) : AV → Option (List AV)
  | .list xs => some xs
  | .tuple xs => some xs
  | .loc l => match σ.get l with
    | some (.list xs) => some xs
    | _ => none
  | .str s => some (s.cps.toList.map fun c => .str ⟨#[c]⟩)
  | .range a b => some ((List.range (b - a).toNat).map fun (i : Nat) => .int (a + i))
  | _ => none
/-- a list's items -/
def lst? (σ : Sto) : AV → Option (List AV)
  | .list xs => some xs
  | .loc l => match σ.get l with
    | some (.list xs) => some xs
    | _ => none
  | _ => none
def dct? (σ : Sto) : AV → Option (Keys × List AV)
  | .dict ks vs => some (ks, vs)
  | .loc l => match σ.get l with
    | some (.dict ks vs) => some (ks, vs)
    | _ => none
  | _ => none
def mkL (c : Cfg) (p : Pos) (xs : List AV) (σ : Sto) : AV × Sto :=
  if c.mu p then (.loc σ.nx, σ.new (.list xs)) else (.list xs, σ)
mutual
/-- a datum to compare: at most so deep -/
def toPy : Nat → AV → Option PyData
  | _, .none => some .none
  | _, .bool b => some (.bool b)
  | _, .int i => some (.int i)
  | _, .str s => if PyData.strOk s then some (.str s) else none
  | k + 1, .list xs => (toPys k xs).map .list
  | k + 1, .tuple xs => (toPys k xs).map .tuple
  | _, _ => none
def toPys : Nat → List AV → Option (List PyData)
  | _, [] => some []
  | k, x :: xs => (toPy k x).bind fun d => (toPys k xs).map (d :: ·)
end
def shallow (σ : Sto) (v : AV) : AV := match v with
  | .loc l => match σ.get l with
    | some (.list xs) => .list xs
    | _ => v
  | _ => v
def eqA (σ : Sto) (v w : AV) : Option Bool :=
  match v, w with
  | .str a, .str b => some (a == b)
  | .bool a, .bool b => some (a == b)
  | v, w => (toPy 8 (shallow σ v)).bind fun a => (toPy 8 (shallow σ w)).map fun b => PyData.eqv a b
def memA (σ : Sto) (v w : AV) : Option Bool :=
  (lst? σ w).bind fun xs => (toPys 7 xs).bind fun ds => (toPy 8 (shallow σ v)).map fun d => ds.any fun y => PyData.eqv y d
def lk {K α : Type} [DecidableEq K] (k : K) : List K → List α → Option α
  | x :: xs, v :: vs => if x = k then some v else lk k xs vs
  | _, _ => none
def repl {K α : Type} [DecidableEq K] (k : K) (v : α) : List K → List α → List α
  | x :: xs, w :: vs => (if x = k then v else w) :: repl k v xs vs
  | _, vs => vs
def findKey (k : AV) (ks : Keys) (vs : List AV) : Option (Option AV) :=
  match k, ks with
  | .int i, .ki l => some (lk i l vs)
  | .str s, .ks l => some (lk s l vs)
  | _, _ => none
def setKey (k v : AV) (ks : Keys) (vs : List AV) : Option (Keys × List AV) :=
  match k, ks with
  | .int i, .ki l => if l.length < 2 ^ 20 then some (if i ∈ l then (ks, repl i v l vs) else (.ki (l ++ [i]), vs ++ [v])) else none
  | .str s, .ks l => if l.length < 2 ^ 20 then some (if s ∈ l then (ks, repl s v l vs) else (.ks (l ++ [s]), vs ++ [v])) else none
  | _, _ => none
/-- one sign in a text -/
def subStr (x y : Str) : Option Bool := match x.cps.toList with
  | [c] => some (y.cps.toList.contains c)
  | _ => none
def cmpA (σ : Sto) (op : CmpOp) (v w : AV) : Option Bool :=
  match op with
  | .Eq => eqA σ v w
  | .NotEq => (eqA σ v w).map (!·)
  | .Lt => match v, w with | .int a, .int b => some (decide (a < b)) | _, _ => none
  | .Gt => match v, w with | .int a, .int b => some (decide (b < a)) | _, _ => none
  | .GtE => match v, w with | .int a, .int b => some (decide (b ≤ a)) | _, _ => none
  | .Is => match v, w with | .none, .none => some true | .str _, .none => some false | _, _ => none
  | .In => match w with
    | .str y => match v with | .str x => subStr x y | _ => none
    | _ => memA σ v w
  | .NotIn => match w with
    | .str y => match v with | .str x => (subStr x y).map (!·) | _ => none
    | _ => (memA σ v w).map (!·)
  | _ => none
def idx (n : Nat) (i : Int) : Option Nat := seqIndex? i n
def binA (c : Cfg) (p : Pos) (op : Operator) (v w : AV) (σ : Sto) : Option (AV × Sto) :=
  match op, v, w with
  | .Add, .int a, .int b => some (.int (a + b), σ)
  | .Sub, .int a, .int b => some (.int (a - b), σ)
  | .Mult, .int a, .int b => if a.natAbs < 2 ^ 31 ∧ b.natAbs < 2 ^ 31 then some (.int (a * b), σ) else none
  | .FloorDiv, .int a, .int b => if 0 < b ∧ b < 2 ^ 30 then some (.int (a.fdiv b), σ) else none
  | .Mod, .int a, .int b => if 0 < b then some (.int (a.fmod b), σ) else none
  | .Pow, .int a, .int b => if a = 10 ∧ b = 6 then some (.int 1000000, σ) else none
  | .Add, .str a, .str b => if a.length + b.length ≤ sizeLine then some (.str (a ++ b), σ) else none
  | .Mult, .list xs, .int b => if b = 2 ∧ xs.length ≤ 100 then some (mkL c p (xs ++ xs) σ) else none
  | .Add, v, w => do
    let xs ← lst? σ v
    let ys ← lst? σ w
    if xs.length + ys.length ≤ 2 ^ 20 then some (mkL c p (xs ++ ys) σ) else none
  | _, _, _ => none
def truthA (σ : Sto) : AV → Option Bool
  | .none => some false
  | .bool b => some b
  | .int i => some (i != 0)
  | v => (lst? σ v).map fun xs => !xs.isEmpty
/-- a cut's two bounds -/
def cut (n : Nat) (lo hi : Option Int) : Nat × Nat :=
  let cl (i : Int) : Nat := if i < 0 then (i + n).toNat else min i.toNat n
  ((match lo with | some i => cl i | none => 0), (match hi with | some i => cl i | none => n))
def cutL {α : Type} (xs : List α) (lo hi : Option Int) : List α :=
  let (a, b) := cut xs.length lo hi
  (xs.take b).drop a
def optI : Option AV → Option (Option Int)
  | none => some none
  | some (.int i) => some (some i)
  | some _ => none
def joinA : List AV → Option (List Nat)
  | [] => some []
  | .str s :: xs => (joinA xs).map (s.cps.toList ++ ·)
  | _ :: _ => none
def sumA : List AV → Option Int
  | [] => some 0
  | .int i :: xs => (sumA xs).map (i + ·)
  | _ :: _ => none
def insA (i : Int) : List Int → List Int
  | [] => [i]
  | j :: js => if i ≤ j then i :: j :: js else j :: insA i js
def sortA : List Int → List Int
  | [] => []
  | i :: is => insA i (sortA is)
def intsA : List AV → Option (List Int)
  | [] => some []
  | .int i :: xs => (intsA xs).map (i :: ·)
  | _ :: _ => none
def digits? (s : Str) : Bool := s.length != 0 && s.cps.toList.all fun c => 48 ≤ c && c ≤ 57
def intOf (s : Str) : Int := ((s.cps.toList.foldl (fun acc c => acc * 10 + (c - 48)) 0 : Nat) : Int)
def callB (c : Cfg) (p : Pos) (n : Str) (args : List AV) (σ : Sto) : Option (AV × Sto) :=
  if n = "len" then match args with
    | [.str s] => if s.length < 2 ^ 40 then some (.int s.length, σ) else none
    | [v] => (lst? σ v).map fun xs => (.int xs.length, σ)
    | _ => none
  else if n = "range" then match args with
    | [.int b] => if -(2 ^ 40) < b ∧ b < 2 ^ 40 then some (.range 0 b, σ) else none
    | [.int a, .int b] => if 0 ≤ a ∧ a < 2 ^ 40 ∧ -(2 ^ 40) < b ∧ b < 2 ^ 40 then some (.range a b, σ) else none
    | _ => none
  else if n = "list" then match args with
    | [.range a b] => if 0 ≤ a ∧ b ≤ 2 ^ 20 then some (mkL c p ((List.range (b - a).toNat).map fun (i : Nat) => .int (a + i)) σ) else none
    | [.str s] => if s.length ≤ 2 ^ 20 then some (mkL c p (s.cps.toList.map fun c => .str ⟨#[c]⟩) σ) else none
    | _ => none
  else if n = "str" then match args with
    | [.int i] => if 0 ≤ i ∧ i < 10 ^ 9 then some (.str (Str.ofString (toString i)), σ) else none
    | _ => none
  else if n = "int" then match args with
    | [.str s] => if digits? s ∧ s.length < 100 then some (.int (intOf s), σ) else none
    | _ => none
  else if n = "sum" then match args with
    | [v] => ((lst? σ v).bind sumA).map fun i => (.int i, σ)
    | _ => none
  else if n = "divmod" then match args with
    | [.int a, .int b] => if 0 < b ∧ b < 2 ^ 30 then some (.tuple [.int (a.fdiv b), .int (a.fmod b)], σ) else none
    | _ => none
  else if n = "sorted" then match args with
    | [v] => do
      let xs ← lst? σ v
      let is ← intsA xs
      if is.length < 64 then some (mkL c p ((sortA is).map .int) σ) else none
    | _ => none
  else none
/-- a method of a value -/
inductive Mth where
  | join (s : Str)
  | split (s : Str)
  | count (s : Str)
  | isdigit (s : Str)
  | get (v : AV)
  | append (l : Nat)
  | pop (l : Nat)
  | lex (l : Nat) (n : Str)
def resM (σ : Sto) (v : AV) (n : Str) : Option Mth :=
  match v with
  | .str s => if n = "join" then some (.join s) else if n = "split" then some (.split s) else if n = "count" then some (.count s) else if n = "isdigit" then some (.isdigit s) else none
  | .dict .. => if n = "get" then some (.get v) else none
  | .loc l => match σ.get l with
    | some (.list _) => if n = "append" then some (.append l) else if n = "pop" then some (.pop l) else none
    | some (.dict ..) => if n = "get" then some (.get v) else none
    | some (.lexer ..) => if n = "get_token" ∨ n = "push_token" ∨ n = "_read_char" then some (.lex l n) else none
    | _ => none
  | _ => none
def runM (c : Cfg) (p : Pos) (Φ : Fns) (m : Mth) (args : List AV) (σ : Sto) : Option (AV × Sto) :=
  match m, args with
  | .join s, [w] => (lst? σ w).bind fun xs => (joinA xs).bind fun r => if s.length = 0 ∧ r.length ≤ 2 ^ 20 then some (.str ⟨r.toArray⟩, σ) else none
  | .split s, [.str t] => if t.length ≠ 0 ∧ s.length ≤ 2 ^ 20 ∧ (Txt.split s t).length ≤ 2 ^ 20 then some (mkL c p ((Txt.split s t).map .str) σ) else none
  | .count s, [.str t] => if t = ⟨#[10]⟩ then some (.int (s.cps.toList.count 10), σ) else none
  | .isdigit s, [] => if s.cps.toList.all (· < 128) then some (.bool (digits? s), σ) else none
  | .get v, [k, d] => (dct? σ v).bind fun kv => (findKey k kv.1 kv.2).map fun r => (r.getD d, σ)
  | .append l, [w] => match σ.get l with
    | some (.list xs) => if xs.length < 2 ^ 20 then some (.none, σ.upd l (.list (xs ++ [w]))) else none
    | _ => none
  | .pop l, [.int i] => match σ.get l with
    | some (.list (x :: xs)) => if i = 0 then some (x, σ.upd l (.list xs)) else none
    | _ => none
  | .lex l n, args => Φ n (.loc l :: args) σ
  | _, _ => none
def attrA (σ : Sto) (v : AV) (n : Str) : Option AV :=
  match v with
  | .loc l => match σ.get l with
    | some (.lexer i _ _) => if n = "lineno" then some (.int i) else if n = "whitespace" then some (.str ⟨#[10, 9, 13, 32]⟩) else none
    | _ => none
  | _ => none
def getA (σ : Sto) (v i : AV) : Option AV :=
  match v, i with
  | .str s, .int i => if s.length ≤ 100 then ((idx s.length i).bind fun k => s.cps[k]?).map fun ch => .str ⟨#[ch]⟩ else none
  | .dict ks vs, k => (findKey k ks vs).bind id
  | .tuple xs, .int i => (idx xs.length i).bind fun k => xs[k]?
  | v, .int i => (lst? σ v).bind fun xs => (idx xs.length i).bind fun k => xs[k]?
  | _, _ => none
def sliceA (c : Cfg) (p : Pos) (σ : Sto) (v : AV) (lo hi : Option Int) : Option (AV × Sto) :=
  match v with
  | .str s => if s.length ≤ 2 ^ 20 then some (.str ⟨(cutL s.cps.toList lo hi).toArray⟩, σ) else none
  | v => (lst? σ v).map fun xs => mkL c p (cutL xs lo hi) σ
/-- a loop over a sequence that is read anew at each turn -/
def iterA {β : Type} (rd : β → Option (List AV)) (step : AV → β → Option (Fl × β)) : Nat → Nat → β → Option (Fl × β)
  | 0, i, b => do
    let xs ← rd b
    if xs.length ≤ i then some (.next, b) else none
  | n + 1, i, b => do
    let xs ← rd b
    match xs[i]? with
    | none => some (.next, b)
    | some v => match step v b with
      | some (.next, b') | some (.cont, b') => iterA rd step n (i + 1) b'
      | some (.brk, b') => some (.next, b')
      | some (.ret v, b') => some (.ret v, b')
      | none => none
def whileA {β : Type} (test : β → Option (Bool × β)) (body : β → Option (Fl × β)) : Nat → β → Option (Fl × β)
  | 0, _ => none
  | n + 1, b => match test b with
    | none => none
    | some (false, b') => some (.next, b')
    | some (true, b') => match body b' with
      | some (.next, b'') | some (.cont, b'') => whileA test body n b''
      | some (.brk, b'') => some (.next, b'')
      | some (.ret v, b'') => some (.ret v, b'')
      | none => none
/-- a name of the frame's own is bound -/
def setv (sc : Scope) (m : Fm) (x : Str) (v : AV) : Option Fm :=
  match sc.names.lookup x with
  | some .local | some .cell => some (m.set x v)
  | _ => none
def bindNames (sc : Scope) : List Expr → List AV → Fm → Option Fm
  | [], [], m => some m
  | .Name x _ :: ts, v :: vs, m => (setv sc m x v).bind fun m => bindNames sc ts vs m
  | _, _, _ => none
/-- what a target takes -/
def bindT (sc : Scope) (t : Expr) (v : AV) (m : Fm) : Option Fm :=
  match t with
  | .Name x _ => setv sc m x v
  | .Tuple ts _ _ => match v with
    | .tuple vs => bindNames sc ts vs m
    | _ => none
  | _ => none
def okBase : Expr → Bool
  | .Call (.Name _ _) [] [] _ => false
  | _ => true
/-- a comprehension's scope, seen from the scope around it -/
def okScope (sc : Scope) : Bool := sc.kind == .function && sc.names.all fun x => sc.names.lookup x.1 == some x.2
def okComp (sc csc : Scope) : Bool := okScope csc && csc.names.all fun x => x.2 != .free || (sc.names.lookup x.1 == some .cell || sc.names.lookup x.1 == some .free)
/-- the frame of a comprehension ahead of its first turn -/
def inner (sc : Scope) (m : Fm) : Fm := fun x => match sc.names.lookup x with
  | some .free => m x
  | _ => none
structure Acc where
  ks : Keys
  vs : List AV
/-- a source of a comprehension: zip of two lists, or what is read anew -/
inductive Src where
  | pairs (xs : List AV)
  | val (v : AV)
def Src.items (σ : Sto) : Src → Option (List AV)
  | .pairs xs => some xs
  | .val v => items? σ v
def zipA : List AV → List AV → List AV
  | x :: xs, y :: ys => .tuple [x, y] :: zipA xs ys
  | _, _ => []
def freezeA (x : Str) (m : Fm) (σ : Sto) : Option (Fm × Sto) :=
  match m x with
  | some (.loc l) => match σ.get l with
    | some (.list xs) => some (m.set x (.list xs), σ.forget l)
    | _ => none
  | _ => none
def freezes : List Str → Fm → Sto → Option (Fm × Sto)
  | [], m, σ => some (m, σ)
  | x :: xs, m, σ => do
    let (m, σ) ← freezeA x m σ
    freezes xs m σ
/-- a clause's names are not bound yet; pairs are taken apart at once -/
def freshT (m : Fm) : Expr → Bool
  | .Name x _ => (m x).isNone
  | .Tuple ts _ _ => ts.all fun
    | .Name x _ => (m x).isNone
    | _ => false
  | _ => false
def Src.fits : Src → Expr → Bool
  | .pairs _, .Tuple .. => true
  | .pairs _, _ => false
  | .val _, _ => true
/-- one clause of a comprehension: the turns over its source -/
def compA (sc : Scope) (src : Src) (t : Expr) (m : Fm) (ifs : Fm → Sto → Option (Bool × Sto)) (rest : Fm → Acc → Sto → Option (Acc × Sto)) (acc : Acc) (σ : Sto) : Option (Acc × Sto) :=
  if src.fits t = true ∧ freshT m t = true then (src.items σ).bind fun xs =>
    (iterA (fun b : Acc × Sto => src.items b.2) (fun v b =>
      (bindT sc t v m).bind fun m' => (ifs m' b.2).bind fun r =>
        if r.1 then (rest m' b.1 r.2).map fun b' => (.next, b') else some (.next, (b.1, r.2))) xs.length 0 (acc, σ)).map fun r => r.2
  else none
def emitL (e : Fm → Sto → Option (AV × Sto)) (m : Fm) (acc : Acc) (σ : Sto) : Option (Acc × Sto) :=
  (e m σ).bind fun r => if acc.vs.length < 2 ^ 20 then some ({ acc with vs := acc.vs ++ [r.1] }, r.2) else none
def emitS (e : Fm → Sto → Option (AV × Sto)) (m : Fm) (acc : Acc) (σ : Sto) : Option (Acc × Sto) :=
  (e m σ).bind fun r => match r.1 with
    | .int i => if acc.vs.length < 60 then some ({ acc with vs := if acc.vs.any (fun | .int j => i == j | _ => false) then acc.vs else acc.vs ++ [.int i] }, r.2) else none
    | _ => none
def emitD (k e : Fm → Sto → Option (AV × Sto)) (m : Fm) (acc : Acc) (σ : Sto) : Option (Acc × Sto) :=
  (k m σ).bind fun a => (e m a.2).bind fun b => (setKey a.1 b.1 acc.ks acc.vs).map fun r => (⟨r.1, r.2⟩, b.2)
def sortSet (c : Cfg) (p : Pos) (r : Acc × Sto) : Option (AV × Sto) :=
  (intsA r.1.vs).bind fun is => if is.length < 64 then some (mkL c p ((sortA is).map .int) r.2) else none
/-- the source that a call of two arguments gives -/
def srcCall (c : Cfg) (Φ : Fns) (p : Pos) (g x y : AV) (σ : Sto) : Option (Src × Sto) :=
  match g with
  | .bi n => if n = "zip" then match x, y with
      | .list xs, .list ys => some (.pairs (zipA xs ys), σ)
      | _, _ => none
    else (callB c p n [x, y] σ).map fun r => (.val r.1, r.2)
  | .glob n => (Φ n [x, y] σ).map fun r => (.val r.1, r.2)
  | _ => none
def callV (c : Cfg) (Φ : Fns) (p : Pos) (g : AV) (as : List AV) (σ : Sto) : Option (AV × Sto) :=
  match g with
  | .bi n => callB c p n as σ
  | .glob n => Φ n as σ
  | _ => none
/-- the step of a reversed cut -/
def isNeg1 : Expr → Bool
  | .UnaryOp .USub (.Constant (.int i) _ _) _ => i == 1
  | _ => false
mutual
def ev (c : Cfg) (Φ : Fns) : Expr → Scope → Fm → Sto → Option (AV × Sto)
  | .Constant k _ _, _, _, σ => match k with
    | .none => some (.none, σ)
    | .bool b => some (.bool b, σ)
    | .int i => some (.int i, σ)
    | .str s => some (.str s, σ)
    | _ => none
  | .Name x _, sc, m, σ => (look c sc m x).map (·, σ)
  | .BoolOp op es _, sc, m, σ => evB c Φ op es sc m σ
  | .BinOp l op r p, sc, m, σ =>
    (ev c Φ l sc m σ).bind fun a => (ev c Φ r sc m a.2).bind fun b => binA c p op a.1 b.1 b.2
  | .UnaryOp .USub e _, sc, m, σ =>
    (ev c Φ e sc m σ).bind fun a => match a.1 with
    | .int i => some (.int (-i), a.2)
    | _ => none
  | .IfExp t a b _, sc, m, σ =>
    (tr c Φ t (ev c Φ t sc) sc m σ).bind fun x => if x.1 then ev c Φ a sc m x.2 else ev c Φ b sc m x.2
  | .Compare l [op] [r] _, sc, m, σ =>
    (ev c Φ l sc m σ).bind fun a => (ev c Φ r sc m a.2).bind fun b => (cmpA b.2 op a.1 b.1).map fun x => (.bool x, b.2)
  | .List es p, sc, m, σ => if es.length ≤ 1000 then (evs c Φ es sc m σ).map fun r => mkL c p r.1 r.2 else none
  | .Tuple es _ _, sc, m, σ => if es.length ≤ 1000 then (evs c Φ es sc m σ).map fun r => (.tuple r.1, r.2) else none
  | .Dict [] [] _, _, _, σ => some (.loc σ.nx, σ.new (.dict (.ki []) []))
  | .Subscript e (.Slice lo hi none _) p, sc, m, σ =>
    (ev c Φ e sc m σ).bind fun v => (evO c Φ lo sc m v.2).bind fun lo => (evO c Φ hi sc m lo.2).bind fun hi =>
      (optI lo.1).bind fun l => (optI hi.1).bind fun h => sliceA c p hi.2 v.1 l h
  | .Subscript e (.Slice lo hi (some st) _) p, sc, m, σ =>
    if lo.isNone = true ∧ hi.isNone = true ∧ isNeg1 st = true then (ev c Φ e sc m σ).bind fun v => (lst? v.2 v.1).map fun xs => mkL c p xs.reverse v.2 else none
  | .Subscript e i _, sc, m, σ =>
    (ev c Φ e sc m σ).bind fun v => (ev c Φ i sc m v.2).bind fun i => (getA i.2 v.1 i.1).map fun r => (r, i.2)
  | .Attribute e n _, sc, m, σ =>
    if okBase e then (ev c Φ e sc m σ).bind fun v => (attrA v.2 v.1 n).map fun r => (r, v.2) else none
  | .Call (.Attribute e n ap) args [] p, sc, m, σ =>
    if okBase e = true ∧ ap.endLine = p.line ∧ args.length < 30 then (ev c Φ e sc m σ).bind fun v => (resM v.2 v.1 n).bind fun mt => (evs c Φ args sc m v.2).bind fun as => runM c p Φ mt as.1 as.2 else none
  | .Call (.Name f _) [.SetComp elt (⟨t, iter, ifs, a⟩ :: gs) csc _] [] p, sc, m, σ =>
    (look c sc m f).bind fun g => match g with
    | .bi n => if n = "sorted" ∧ c.sets = true ∧ a = 0 ∧ okComp sc csc = true then
        (evSrc c Φ iter (ev c Φ iter sc) sc m σ).bind fun src =>
          (compA csc src.1 t (inner csc m) (trs c Φ ifs csc) (gens c Φ (emitS (ev c Φ elt csc)) gs csc) ⟨.ki [], []⟩ src.2).bind (sortSet c p)
      else none
    | _ => none
  | .Call (.Name f _) args [] p, sc, m, σ =>
    (look c sc m f).bind fun g => (evs c Φ args sc m σ).bind fun as => callV c Φ p g as.1 as.2
  | .ListComp elt (⟨t, iter, ifs, a⟩ :: gs) csc p, sc, m, σ =>
    if a = 0 ∧ okComp sc csc = true then (evSrc c Φ iter (ev c Φ iter sc) sc m σ).bind fun src =>
      (compA csc src.1 t (inner csc m) (trs c Φ ifs csc) (gens c Φ (emitL (ev c Φ elt csc)) gs csc) ⟨.ki [], []⟩ src.2).map fun r => mkL c p r.1.vs r.2
    else none
  | .DictComp k e (⟨t, iter, ifs, a⟩ :: gs) csc p, sc, m, σ =>
    if a = 0 ∧ okComp sc csc = true then (evSrc c Φ iter (ev c Φ iter sc) sc m σ).bind fun src =>
      (compA csc src.1 t (inner csc m) (trs c Φ ifs csc) (gens c Φ (emitD (ev c Φ k csc) (ev c Φ e csc)) gs csc) ⟨if c.sk p then .ks [] else .ki [], []⟩ src.2).map fun r => (.dict r.1.ks r.1.vs, r.2)
    else none
  | _, _, _, _ => none
def evB (c : Cfg) (Φ : Fns) (op : BoolOp) : List Expr → Scope → Fm → Sto → Option (AV × Sto)
  | [], _, _, _ => none
  | [e], sc, m, σ => ev c Φ e sc m σ
  | e :: es, sc, m, σ =>
    (ev c Φ e sc m σ).bind fun v => (truthA v.2 v.1).bind fun b => match op, b with
    | .And, false | .Or, true => some v
    | _, _ => evB c Φ op es sc m v.2
def evs (c : Cfg) (Φ : Fns) : List Expr → Scope → Fm → Sto → Option (List AV × Sto)
  | [], _, _, σ => some ([], σ)
  | e :: es, sc, m, σ => (ev c Φ e sc m σ).bind fun v => (evs c Φ es sc m v.2).map fun vs => (v.1 :: vs.1, vs.2)
def evO (c : Cfg) (Φ : Fns) : Option Expr → Scope → Fm → Sto → Option (Option AV × Sto)
  | none, _, _, σ => some (none, σ)
  | some e, sc, m, σ => (ev c Φ e sc m σ).map fun v => (some v.1, v.2)
def evSrc (c : Cfg) (Φ : Fns) : Expr → (Fm → Sto → Option (AV × Sto)) → Scope → Fm → Sto → Option (Src × Sto)
  | .Call (.Name f _) [a, b] [] p, _, sc, m, σ =>
    (look c sc m f).bind fun g => (ev c Φ a sc m σ).bind fun x => (ev c Φ b sc m x.2).bind fun y => srcCall c Φ p g x.1 y.1 y.2
  | _, whole, _, m, σ => (whole m σ).map fun v => (.val v.1, v.2)
def tr (c : Cfg) (Φ : Fns) : Expr → (Fm → Sto → Option (AV × Sto)) → Scope → Fm → Sto → Option (Bool × Sto)
  | .UnaryOp .Not e _, _, sc, m, σ => (tr c Φ e (ev c Φ e sc) sc m σ).map fun b => (!b.1, b.2)
  | .BoolOp op es _, _, sc, m, σ => trB c Φ op es sc m σ
  | .Compare l ops cs _, _, sc, m, σ => if ops.length = cs.length then (ev c Φ l sc m σ).bind fun a => trC c Φ ops cs a.1 sc m a.2 else none
  | .IfExp .., _, _, _, _ => none
  | _, whole, _, m, σ => (whole m σ).bind fun v => (truthA v.2 v.1).map fun b => (b, v.2)
def trC (c : Cfg) (Φ : Fns) : List CmpOp → List Expr → AV → Scope → Fm → Sto → Option (Bool × Sto)
  | [op], [e], a, sc, m, σ => (ev c Φ e sc m σ).bind fun b => (cmpA b.2 op a b.1).map fun x => (x, b.2)
  | op :: ops, e :: es, a, sc, m, σ => (ev c Φ e sc m σ).bind fun b => (cmpA b.2 op a b.1).bind fun x =>
    if x then trC c Φ ops es b.1 sc m b.2 else some (false, b.2)
  | _, _, _, _, _, _ => none
def trB (c : Cfg) (Φ : Fns) (op : BoolOp) : List Expr → Scope → Fm → Sto → Option (Bool × Sto)
  | [], _, _, σ => some (op == .And, σ)
  | e :: es, sc, m, σ => (tr c Φ e (ev c Φ e sc) sc m σ).bind fun b => match op, b.1 with
    | .And, false => some (false, b.2)
    | .Or, true => some (true, b.2)
    | _, _ => trB c Φ op es sc m b.2
def trs (c : Cfg) (Φ : Fns) : List Expr → Scope → Fm → Sto → Option (Bool × Sto)
  | [], _, _, σ => some (true, σ)
  | e :: es, sc, m, σ => (tr c Φ e (ev c Φ e sc) sc m σ).bind fun b => if b.1 then trs c Φ es sc m b.2 else some (false, b.2)
def gens (c : Cfg) (Φ : Fns) (K : Fm → Acc → Sto → Option (Acc × Sto)) : List Comprehension → Scope → Fm → Acc → Sto → Option (Acc × Sto)
  | [], _, m, acc, σ => K m acc σ
  | ⟨t, iter, ifs, a⟩ :: gs, sc, m, acc, σ =>
    if a = 0 then (ev c Φ iter sc m σ).bind fun v => compA sc (.val v.1) t m (trs c Φ ifs sc) (gens c Φ K gs sc) acc v.2 else none
end
def isComp : Expr → Bool
  | .ListComp .. | .SetComp .. | .DictComp .. => true
  | _ => false
/-- the order of the stores is known -/
def okStores : Expr → Expr → Bool
  | .Tuple .., .Tuple vs _ _ => !vs.all (constantsAlone 8)
  | _, _ => true
/-- a store into an item -/
def setA (σ : Sto) (v i w : AV) : Option Sto :=
  match v with
  | .loc l => match σ.get l with
    | some (.dict ks vs) => (setKey i w ks vs).map fun (ks, vs) => σ.upd l (.dict ks vs)
    | _ => none
  | _ => none
/-- += in place -/
def incA (σ : Sto) (op : Operator) (v w : AV) : Option (AV × Sto) :=
  match op, v with
  | .Add, .int a => match w with | .int b => some (.int (a + b), σ) | _ => none
  | .Add, .str a => match w with | .str b => if a.length + b.length ≤ sizeLine then some (.str (a ++ b), σ) else none | _ => none
  | .Add, .loc l => match σ.get l with
    | some (.list xs) => (lst? σ w).bind fun ys => if xs.length + ys.length ≤ 2 ^ 20 then some (.loc l, σ.upd l (.list (xs ++ ys))) else none
    | _ => none
  | _, _ => none
mutual
def ex (c : Cfg) (Φ : Fns) : Stmt → Scope → Fm → Sto → Option (Fl × Fm × Sto)
  | .Expr e _, sc, m, σ => if isComp e = false then (ev c Φ e sc m σ).map fun r => (.next, m, r.2) else none
  | .Break _, _, m, σ => some (.brk, m, σ)
  | .Continue _, _, m, σ => some (.cont, m, σ)
  | .Return (some e) _, sc, m, σ => (ev c Φ e sc m σ).map fun r => (.ret r.1, m, r.2)
  | .Assign [.Subscript o i _] e _, sc, m, σ =>
    (ev c Φ e sc m σ).bind fun w => (ev c Φ o sc m w.2).bind fun v => (ev c Φ i sc m v.2).bind fun i =>
      (setA i.2 v.1 i.1 w.1).map fun σ => (.next, m, σ)
  | .Assign [t] e _, sc, m, σ => if okStores t e = true then (ev c Φ e sc m σ).bind fun v => (bindT sc t v.1 m).map fun m => (.next, m, v.2) else none
  | .AugAssign (.Name x _) op e _, sc, m, σ =>
    (look c sc m x).bind fun old => (ev c Φ e sc m σ).bind fun v => (incA v.2 op old v.1).bind fun r => (setv sc m x r.1).map fun m => (.next, m, r.2)
  | .AugAssign (.Subscript o i _) op e _, sc, m, σ =>
    (ev c Φ o sc m σ).bind fun v => (ev c Φ i sc m v.2).bind fun i => (getA i.2 v.1 i.1).bind fun old =>
      (ev c Φ e sc m i.2).bind fun w => match v.1, i.1, old with
      | .list _, .int j, .loc l => if 0 ≤ j then (incA w.2 op (.loc l) w.1).map fun r => (.next, m, r.2) else none
      | _, _, _ => none
  | .If t a b _, sc, m, σ => (tr c Φ t (ev c Φ t sc) sc m σ).bind fun x => if x.1 then exs c Φ a sc m x.2 else exs c Φ b sc m x.2
  | .While t b [] _, sc, m, σ =>
    whileA (fun s : Fm × Sto => (tr c Φ t (ev c Φ t sc) sc s.1 s.2).map fun r => (r.1, s.1, r.2)) (fun s => exs c Φ b sc s.1 s.2) c.fuel (m, σ)
  | .For t e b [] _, sc, m, σ => (ev c Φ e sc m σ).bind fun v => (items? v.2 v.1).bind fun xs =>
    iterA (fun s : Fm × Sto => items? s.2 v.1) (fun w s => (bindT sc t w s.1).bind fun m => exs c Φ b sc m s.2) xs.length 0 (m, v.2)
  | _, _, _, _ => none
def exs (c : Cfg) (Φ : Fns) : List Stmt → Scope → Fm → Sto → Option (Fl × Fm × Sto)
  | [], _, m, σ => some (.next, m, σ)
  | s :: ss, sc, m, σ => (freezes (c.fz s.pos) m σ).bind fun r => (ex c Φ s sc r.1 r.2).bind fun r => match r.1 with
    | .next => exs c Φ ss sc r.2.1 r.2.2
    | f => some (f, r.2)
end
structure Def where
  params : List Str
  body : List Stmt
  scope : Scope
def Def.call (d : Def) (c : Cfg) (Φ : Fns) (args : List AV) (σ : Sto) : Option (AV × Sto) :=
  if d.params.length = args.length then
    match exs c Φ d.body d.scope (fun x => (d.params.zip args).lookup x) σ with
    | some (.ret v, _, σ') => some (v, σ'.upto σ.nx)
    | some (.next, _, σ') => some (.none, σ'.upto σ.nx)
    | _ => none
  else none
/-- the reading of one token off a text: what it gives, what is left, the line ends met -/
def bare : List Nat → List Nat → Nat → List Nat × List Nat × Nat
  | tok, [], n => (tok, [], n)
  | tok, 92 :: [], n => (tok, [], n)
  | tok, 92 :: c :: cs, n => bare (tok ++ [c]) cs (if c = 10 then n + 1 else n)
  | tok, c :: cs, n => if c = 10 ∨ c = 9 ∨ c = 13 ∨ c = 32 then (tok, cs, if c = 10 then n + 1 else n) else bare (tok ++ [c]) cs n
def quoted : List Nat → List Nat → Nat → List Nat × List Nat × Nat
  | tok, [], n => (tok, [], n)
  | tok, 92 :: [], n => (tok, [], n)
  | tok, 92 :: c :: cs, n => quoted (tok ++ [c]) cs (if c = 10 then n + 1 else n)
  | tok, c :: cs, n => if c = 34 then (tok, cs, n) else quoted (tok ++ [c]) cs (if c = 10 then n + 1 else n)
def token : List Nat → Nat → List Nat × List Nat × Nat
  | [], n => ([], [], n)
  | 34 :: cs, n => quoted [] cs n
  | 92 :: [], n => ([], [], n)
  | 92 :: c :: cs, n => bare [c] cs (if c = 10 then n + 1 else n)
  | c :: cs, n => if c = 10 ∨ c = 9 ∨ c = 13 ∨ c = 32 then token cs (if c = 10 then n + 1 else n) else bare [c] cs n
def signs? : List AV → Option (List Nat)
  | [] => some []
  | .str x :: xs => match x.cps.toList with
    | [c] => if c < 0x110000 then (signs? xs).map (c :: ·) else none
    | _ => none
  | _ :: _ => none
def primGet (args : List AV) (σ : Sto) : Option (AV × Sto) :=
  match args with
  | [.loc l] => match σ.get l with
    | some (.lexer ln lf (t :: ts)) => some (t, σ.upd l (.lexer ln lf ts))
    | some (.lexer ln lf []) => match σ.get lf with
      | some (.list xs) => do
        let cs ← signs? xs
        let (tok, rest, n) := token cs 0
        if cs.length < 2 ^ 20 then some (.str ⟨tok.toArray⟩, (σ.upd lf (.list (rest.map fun c => .str ⟨#[c]⟩))).upd l (.lexer (ln + n) lf [])) else none
      | _ => none
    | _ => none
  | _ => none
/-- one sign off the text -/
def primRead (args : List AV) (σ : Sto) : Option (AV × Sto) :=
  match args with
  | [.loc l] => match σ.get l with
    | some (.lexer ln lf ts) => match σ.get lf with
      | some (.list []) => some (.str ⟨#[]⟩, σ)
      | some (.list (.str x :: xs)) => if (toPys 7 (.str x :: xs)).isSome then some (.str x, (σ.upd lf (.list xs)).upd l (.lexer (if x = ⟨#[10]⟩ then ln + 1 else ln) lf ts)) else none
      | _ => none
    | _ => none
  | _ => none
def primPush (args : List AV) (σ : Sto) : Option (AV × Sto) :=
  match args with
  | [.loc l, t] => match σ.get l with
    | some (.lexer ln lf ts) => if ts.length < 2 ^ 20 then some (.none, σ.upd l (.lexer ln lf (ts ++ [t]))) else none
    | _ => none
  | _ => none
/-- the text's functions: depth by depth -/
def fns (c : Cfg) (defs : Str → Option Def) : Nat → Fns
  | 0, _, _, _ => none
  | n + 1, f, args, σ =>
    if f = "get_token" then primGet args σ
    else if f = "push_token" then primPush args σ
    else if f = "_read_char" then primRead args σ
    else if f = "_law_stream" then match args with
      | [.loc l] => match σ.get 0 with
        | some (.tab true) => if l < σ.nx ∧ l ≠ 0 then some (.stream l, σ.upd 0 (.tab false)) else none
        | _ => none
      | _ => none
    else if f = "_netrclex" then match args with
      | [.stream l] => some (.loc σ.nx, σ.new (.lexer 1 l []))
      | _ => none
    else match defs f with
      | some d => d.call c (fns c defs n) args σ
      | none => none
end Mine
namespace Mine
open PySem
def defsOf (p : Program) (f : Str) : Option Def :=
  p.main.body.findSome? fun st => match st with
    | .FunctionDef n a b _ _ _ sc _ _ _ => if n = f then some ⟨a.args.map (·.arg), b, sc⟩ else none
    | _ => none
def biNames : List Str := ["len", "range", "list", "str", "int", "sum", "divmod", "sorted", "zip", "iter"]
def constOf (p : Program) (x : Str) : Option AV :=
  p.main.body.findSome? fun st => match st with
    | .Assign [.Name n _] (.Constant (.int i) _ _) _ => if n = x then some (.int i) else none
    | .FunctionDef n .. => if n = x then some (.glob n) else none
    | .ClassDef n .. => if n = x then some (.glob n) else none
    | _ => none
def dictOf' (p : Program) : List (Option Expr) → List Expr → Option (List Str × List AV)
  | [], [] => some ([], [])
  | some (.Constant (.str s) _ _) :: ks, .Name n _ :: vs => do
    let v ← constOf p n
    let (a, b) ← dictOf' p ks vs
    some (s :: a, v :: b)
  | _, _ => none
def globOf (p : Program) (x : Str) : Option AV :=
  if x = "EXACT_TOKEN_TYPES" then
    p.main.body.findSome? fun st => match st with
      | .Assign [.Name n _] (.Dict ks vs _) _ => if n = x then (dictOf' p ks vs).map fun (a, b) => .dict (.ks a) b else none
      | _ => none
  else match constOf p x with
    | some v => some v
    | none => if biNames.contains x then some (.bi x) else none
def mu1 : List (Nat × Nat) := [(118, 35), (118, 39), (120, 71), (120, 75), (120, 79), (120, 83), (120, 87), (120, 91), (128, 37), (152, 22), (152, 68), (164, 23), (164, 44), (187, 12), (192, 12), (197, 11)]
def mu2 : List (Nat × Nat) := [(118, 22), (120, 80), (128, 20), (149, 12), (154, 10), (168, 12), (173, 12), (178, 34)]
def fz1 (p : Pos) : List Str :=
  if p.line = 144 then ["known", "done", "shut", "shelf", "asking"] else if p.line = 147 then ["tables", "words"]
  else if p.line = 191 then ["rules"] else if p.line = 196 then ["texts"] else []
def fz2 (p : Pos) : List Str :=
  if p.line = 141 then ["answers"] else if p.line = 158 then ["due"] else if p.line = 172 then ["rules"] else if p.line = 177 then ["texts"] else []
def sk1 (p : Pos) : Bool := p.line == 184
def sk2 (p : Pos) : Bool := p.line == 165
def cfg (sets : Bool) (sk : Pos → Bool) (p : Program) (mu : List (Nat × Nat)) (fz : Pos → List Str) : Cfg := { glob := globOf p, mu := fun q => mu.contains (q.line, q.col), fz, sk, fuel := 100000, sets }
def runLaw (sets : Bool) (sk : Pos → Bool) (p : Program) (mu : List (Nat × Nat)) (fz : Pos → List Str) (script : List Int) : Option AV :=
  (fns (cfg sets sk p mu fz) (defsOf p) 10 "law" [.list (script.map .int)] ⟨fun l => if l = 0 then some (.tab true) else none, 1⟩).map (·.1)
end Mine
namespace Mine
open PySem
inductive Col where
  | fz
  | ob (l : Nat)
  | fr (L : Addr)
  | tmp
def Col.isOb : Col → Bool
  | .ob _ => true
  | _ => false
/-- what is fixed throughout a call -/
structure Tp where
  prog : Program
  w : World
  h₀ : Heap
  fnV : Str → Option Value
  C : Addr
  tabA : Addr
  StreamObjs : List (Addr × Obj) → Addr → Addr → Prop
def lobj (vs : List Value) (ep : Nat) : Obj := { cls := .type "list", data := .seq vs.toArray ep }
def tobj (vs : List Value) (ep : Nat) : Obj := { cls := .type "tuple", data := .seq vs.toArray ep }
def cobj (v : Option Value) : Obj := { cls := .type "cell", data := .cell v }
def biV (n : Str) : Option Value :=
  if n = "len" then some (.builtin "len") else if n = "range" then some (.type "range") else if n = "list" then some (.type "list")
  else if n = "str" then some (.type "str") else if n = "int" then some (.type "int") else if n = "sum" then some (.builtin "sum")
  else if n = "divmod" then some (.builtin "divmod") else if n = "sorted" then some (.builtin "sorted") else if n = "zip" then some (.type "zip") else if n = "iter" then some (.builtin "iter") else none
section
variable (T : Tp)
def DRep (h : Heap) (a : Addr) : Keys → List Value → Prop
  | .ki l, us => l.length = us.length ∧ h.DictOf (intKind T.prog T.w) a (l.zip us)
  | .ks l, us => l.length = us.length ∧ h.DictOf (strKind T.prog T.w) a (l.zip us)
mutual
def Rep (h : Heap) (κ : Addr → Col) (γ : Nat → Addr) (n : Nat) : AV → Value → Prop
  | .none, v => v = .none
  | .bool b, v => v = .bool b
  | .int i, v => ∃ t, v = .int i t
  | .str s, v => ∃ t, v = .str s t
  | .list xs, v => ∃ a vs ep, v = .ref a ∧ κ a = .fz ∧ h.get? a = some (lobj vs ep) ∧ xs.length ≤ 2 ^ 24 ∧ RepL h κ γ n xs vs
  | .tuple xs, v => ∃ a vs ep, v = .ref a ∧ κ a = .fz ∧ h.get? a = some (tobj vs ep) ∧ xs.length ≤ 2 ^ 24 ∧ RepL h κ γ n xs vs
  | .dict ks xs, v => ∃ a vs, v = .ref a ∧ κ a = .fz ∧ (a == sysModules) = false ∧ DRep T h a ks vs ∧ RepL h κ γ n xs vs
  | .range x y, v => ∃ a t u q, v = .ref a ∧ κ a = .fz ∧ (0 ≤ x ∧ x < 2 ^ 40 ∧ -(2 ^ 40) < y ∧ y < 2 ^ 40) ∧ IsRange h a x y 1 t u q
  | .loc l, v => v = .ref (γ l) ∧ l < n
  | .stream l, v => ∃ a objs, v = .ref a ∧ (∀ p ∈ objs, κ p.1 = .fz ∧ h.get? p.1 = some p.2) ∧ T.StreamObjs objs a (γ l) ∧ l < n
  | .glob f, v => T.fnV f = some v
  | .bi f, v => biV f = some v
  | .opq a, v => v = .ref a
def RepL (h : Heap) (κ : Addr → Col) (γ : Nat → Addr) (n : Nat) : List AV → List Value → Prop
  | [], vs => vs = []
  | x :: xs, vs => ∃ v us, vs = v :: us ∧ Rep h κ γ n x v ∧ RepL h κ γ n xs us
end
/-- the four fields of a lexer -/
def lexNames : List Str := ["lineno", "instream", "whitespace", "pushback"]
def blanks : Str := ⟨#[10, 9, 13, 32]⟩
def ORep (h : Heap) (κ : Addr → Col) (γ : Nat → Addr) (n : Nat) (l : Nat) : AObj → Prop
  | .tab b => γ l = T.tabA ∧ κ (γ l) = .ob l ∧ ∃ ps, h.get? (γ l) = some { cls := .none, data := .fields ps } ∧ (b = true → ps = #[])
  | .list xs => ∃ vs ep, κ (γ l) = .ob l ∧ h.get? (γ l) = some (lobj vs ep) ∧ xs.length ≤ 2 ^ 24 ∧ RepL T h κ γ n xs vs
  | .dict ks xs => ∃ vs, κ (γ l) = .ob l ∧ DRep T h (γ l) ks vs ∧ RepL T h κ γ n xs vs
  | .lexer ln lf push => ∃ o d pb vs ep sv t u mA, h.get? (γ l) = some o ∧ o.cls = .ref T.C ∧ (∀ c, o.data ≠ .cls c) ∧ o.dict = some d ∧ d ≠ γ l ∧ h.Ns1 d mA ∧
      κ (γ l) = .ob l ∧ κ d = .ob l ∧ κ pb = .ob l ∧ pb ≠ d ∧ pb ≠ γ l ∧ mA "lineno" = some (.int ln t) ∧ mA "instream" = some sv ∧ Rep T h κ γ n (.stream lf) sv ∧
      mA "whitespace" = some (.str blanks u) ∧ mA "pushback" = some (.ref pb) ∧ (∀ x, x ∉ lexNames → mA x = none) ∧ h.get? pb = some (lobj vs ep) ∧ push.length ≤ 2 ^ 24 ∧ RepL T h κ γ n push vs
structure Inv (s : Shared) (κ : Addr → Col) (γ : Nat → Addr) (σ : Sto) : Prop where
  base : ∀ a o, T.h₀.get? a = some o → s.heap.get? a = some o ∧ κ a = .fz
  objs : ∀ l o, σ.get l = some o → l < σ.nx ∧ ORep T s.heap κ γ σ.nx l o
structure Step (P : Addr → Col → Prop) (s : Shared) (κ : Addr → Col) (γ : Nat → Addr) (n : Nat) (s' : Shared) (κ' : Addr → Col) (γ' : Nat → Addr) (n' : Nat) : Prop where
  keep : ∀ a o, s.heap.get? a = some o → ¬ P a (κ a) → s'.heap.get? a = some o
  alive : ∀ a, (s.heap.get? a).isSome → (s'.heap.get? a).isSome
  col : ∀ a, (s.heap.get? a).isSome → (κ a).isOb = false → κ' a = κ a
  gam : ∀ l, l < n → γ' l = γ l
  nx : n ≤ n'
  gens : s'.gens = s.gens
  os : s'.os = s.os
/-- what an expression may change: the objects behind locations -/
def Pe (_ : Addr) (c : Col) : Prop := c.isOb = true
/-- what a statement of a frame may change besides: the frame's own -/
def Ps (W : Addr → Prop) (a : Addr) (c : Col) : Prop := c.isOb = true ∨ (W a ∧ c ≠ .fz)
end
section
variable {T : Tp} {P : Addr → Col → Prop} {s s' s'' : Shared} {κ κ' κ'' : Addr → Col} {γ γ' γ'' : Nat → Addr} {n n' n'' : Nat}
theorem pe_fz {a : Addr} : ¬ Pe a .fz := by simp [Pe, Col.isOb]
theorem ps_fz {W : Addr → Prop} {a : Addr} : ¬ Ps W a .fz := by simp [Ps, Col.isOb]
theorem pe_fr {a L : Addr} : ¬ Pe a (.fr L) := by simp [Pe, Col.isOb]
theorem pe_tmp {a : Addr} : ¬ Pe a .tmp := by simp [Pe, Col.isOb]
theorem ps_tmp {W : Addr → Prop} {a : Addr} (h : ¬ W a) : ¬ Ps W a .tmp := by simp [Ps, Col.isOb, h]
theorem ps_fr {W : Addr → Prop} {a L : Addr} (h : ¬ W a) : ¬ Ps W a (.fr L) := by simp [Ps, Col.isOb, h]
theorem Step.refl : Step P s κ γ n s κ γ n := ⟨fun _ _ e _ => e, fun _ e => e, fun _ _ _ => rfl, fun _ _ => rfl, Nat.le_refl _, rfl, rfl⟩
theorem Step.mono {P' : Addr → Col → Prop} (h : Step P s κ γ n s' κ' γ' n') (hp : ∀ a c, P a c → P' a c) : Step P' s κ γ n s' κ' γ' n' :=
  ⟨fun a o e q => h.keep a o e fun x => q (hp _ _ x), h.alive, h.col, h.gam, h.nx, h.gens, h.os⟩
theorem Step.ps {W : Addr → Prop} (h : Step Pe s κ γ n s' κ' γ' n') : Step (Ps W) s κ γ n s' κ' γ' n' := h.mono fun _ _ x => .inl x
/-- P speaks of a colour that is an object's, or of one that stays -/
theorem Step.trans (h : Step P s κ γ n s' κ' γ' n') (k : Step P s' κ' γ' n' s'' κ'' γ'' n'') (hp : ∀ a c, c.isOb = true → P a c) : Step P s κ γ n s'' κ'' γ'' n'' where
  keep a o e q := by
    have hc : (κ a).isOb = false := by
      cases x : (κ a).isOb with
      | false => rfl
      | true => exact absurd (hp _ _ x) q
    have e' := h.keep a o e q
    exact k.keep a o e' (by rw [h.col a (by rw [e]; rfl) hc]; exact q)
  alive a e := k.alive a (h.alive a e)
  col a e q := by
    have c1 := h.col a e q
    rw [k.col a (h.alive a e) (by rw [c1]; exact q), c1]
  gam l e := by rw [k.gam l (Nat.lt_of_lt_of_le e h.nx), h.gam l e]
  nx := Nat.le_trans h.nx k.nx
  gens := k.gens.trans h.gens
  os := k.os.trans h.os
theorem Step.te (h : Step Pe s κ γ n s' κ' γ' n') (k : Step Pe s' κ' γ' n' s'' κ'' γ'' n'') : Step Pe s κ γ n s'' κ'' γ'' n'' := h.trans k fun _ _ x => x
theorem Step.ts {W : Addr → Prop} (h : Step (Ps W) s κ γ n s' κ' γ' n') (k : Step (Ps W) s' κ' γ' n' s'' κ'' γ'' n'') : Step (Ps W) s κ γ n s'' κ'' γ'' n'' := h.trans k fun _ _ x => .inl x
/-- what is not there yet is no matter -/
theorem Step.pe {W : Addr → Prop} (h : Step (Ps W) s κ γ n s' κ' γ' n') (hw : ∀ a, W a → s.heap.get? a = none) : Step Pe s κ γ n s' κ' γ' n' :=
  ⟨fun a o e q => h.keep a o e (by rintro (x | ⟨x, _⟩); exact q x; rw [hw a x] at e; cases e), h.alive, h.col, h.gam, h.nx, h.gens, h.os⟩
/-- what a value reads as lasts -/
structure Lasts (h : Heap) (κ : Addr → Col) (γ : Nat → Addr) (n : Nat) (h' : Heap) (κ' : Addr → Col) (γ' : Nat → Addr) (n' : Nat) : Prop where
  fz : ∀ a o, h.get? a = some o → κ a = .fz → h'.get? a = some o ∧ κ' a = .fz
  gam : ∀ l, l < n → γ' l = γ l
  nx : n ≤ n'
theorem Step.lasts (h : Step P s κ γ n s' κ' γ' n') (hp : ∀ a, ¬ P a .fz) : Lasts s.heap κ γ n s'.heap κ' γ' n' :=
  ⟨fun a o e q => ⟨h.keep a o e (by rw [q]; exact hp a), by rw [h.col a (by rw [e]; rfl) (by rw [q]; rfl), q]⟩, h.gam, h.nx⟩
theorem DictOf.at' {K : Type} [DecidableEq K] {prog : Program} {w : World} {knd : KeyKind prog w K} {h h' : Heap} {a : Addr} {kvs : List (K × Value)} (x : h.DictOf knd a kvs)
    (hk : ∀ o, h.get? a = some o → h'.get? a = some o) : h'.DictOf knd a kvs :=
  let ⟨o, es, ep, ho, r⟩ := x; ⟨o, es, ep, hk o ho, r⟩
theorem DRep.at {h h' : Heap} {a : Addr} {ks : Keys} {us : List Value} (x : DRep T h a ks us) (hk : ∀ o, h.get? a = some o → h'.get? a = some o) : DRep T h' a ks us := by
  cases ks with
  | ki l => exact ⟨x.1, DictOf.at' x.2 hk⟩
  | ks l => exact ⟨x.1, DictOf.at' x.2 hk⟩
theorem DRep.some {h : Heap} {a : Addr} {ks : Keys} {us : List Value} (x : DRep T h a ks us) : ∃ o, h.get? a = some o := by
  cases ks with
  | ki l => obtain ⟨_, o, _, _, ho, _⟩ := x; exact ⟨o, ho⟩
  | ks l => obtain ⟨_, o, _, _, ho, _⟩ := x; exact ⟨o, ho⟩
theorem isRange_at {h h' : Heap} {a : Addr} {x y z : Int} {t u q : Tok} (r : IsRange h a x y z t u q) (hk : ∀ o, h.get? a = some o → h'.get? a = some o) : IsRange h' a x y z t u q := by
  exact hk _ r
mutual
theorem Rep.lasts {h h' : Heap} (L : Lasts h κ γ n h' κ' γ' n') : ∀ {x : AV} {v : Value}, Rep T h κ γ n x v → Rep T h' κ' γ' n' x v
  | .none, _, r => r
  | .bool _, _, r => r
  | .int _, _, r => r
  | .str _, _, r => r
  | .list xs, _, r => by
    obtain ⟨a, vs, ep, e, c, g, b, q⟩ := r
    have z := L.fz a _ g c
    exact ⟨a, vs, ep, e, z.2, z.1, b, RepL.lasts L q⟩
  | .tuple xs, _, r => by
    obtain ⟨a, vs, ep, e, c, g, b, q⟩ := r
    have z := L.fz a _ g c
    exact ⟨a, vs, ep, e, z.2, z.1, b, RepL.lasts L q⟩
  | .dict ks xs, _, r => by
    obtain ⟨a, vs, e, c, ns, g, q⟩ := r
    obtain ⟨o, ho⟩ := g.some
    exact ⟨a, vs, e, (L.fz a _ ho c).2, ns, g.at fun o ho => (L.fz a o ho c).1, RepL.lasts L q⟩
  | .range _ _, _, r => by
    obtain ⟨a, t, u, q, e, c, b, g⟩ := r
    exact ⟨a, t, u, q, e, (L.fz a _ g c).2, b, isRange_at g fun o ho => (L.fz a o ho c).1⟩
  | .loc l, _, r => by
    obtain ⟨e, q⟩ := r
    exact ⟨by rw [L.gam l q]; exact e, Nat.lt_of_lt_of_le q L.nx⟩
  | .stream l, _, r => by
    obtain ⟨a, objs, e, q, z, b⟩ := r
    exact ⟨a, objs, e, fun p hp => And.symm (L.fz _ _ (q p hp).2 (q p hp).1), by rw [L.gam l b]; exact z, Nat.lt_of_lt_of_le b L.nx⟩
  | .glob _, _, r => r
  | .bi _, _, r => r
  | .opq _, _, r => r
theorem RepL.lasts {h h' : Heap} (L : Lasts h κ γ n h' κ' γ' n') : ∀ {xs : List AV} {vs : List Value}, RepL T h κ γ n xs vs → RepL T h' κ' γ' n' xs vs
  | [], _, r => r
  | x :: xs, _, r => by
    obtain ⟨v, us, e, a, b⟩ := r
    exact ⟨v, us, e, Rep.lasts L a, RepL.lasts L b⟩
end
/-- an object at its location lasts -/
theorem ORep.lasts {h h' : Heap} {l : Nat} {o : AObj} (r : ORep T h κ γ n l o) (L : Lasts h κ γ n h' κ' γ' n') (hl : l < n)
    (hk : ∀ a o, κ a = .ob l → h.get? a = some o → h'.get? a = some o ∧ κ' a = .ob l) : ORep T h' κ' γ' n' l o := by
  have hg := L.gam l hl
  cases o with
  | tab b =>
    obtain ⟨ga, c, ps, g, q⟩ := r
    have z := hk _ _ c g
    exact ⟨hg.trans ga, by rw [hg]; exact z.2, ps, by rw [hg]; exact z.1, q⟩
  | list xs =>
    obtain ⟨vs, ep, c, g, b, q⟩ := r
    have z := hk _ _ c g
    exact ⟨vs, ep, by rw [hg]; exact z.2, by rw [hg]; exact z.1, b, q.lasts L⟩
  | dict ks xs =>
    obtain ⟨vs, c, g, q⟩ := r
    obtain ⟨o, ho⟩ := g.some
    exact ⟨vs, by rw [hg]; exact (hk _ _ c ho).2, by rw [hg]; exact g.at fun o ho => (hk _ _ c ho).1, q.lasts L⟩
  | lexer ln lf push =>
    obtain ⟨o, d, pb, vs, ep, sv, t, u, mA, g, a1, a2, a3, a4, N, c1, c2, c3, a5, a6, m1, m2, r1, m3, m4, m5, g2, b2, r2⟩ := r
    have z := hk _ _ c1 g
    obtain ⟨od, _, _, hod, _⟩ := id N
    exact ⟨o, d, pb, vs, ep, sv, t, u, mA, by rw [hg]; exact z.1, a1, a2, a3, by rw [hg]; exact a4, N.at fun o ho => (hk _ _ c2 ho).1, by rw [hg]; exact z.2, (hk _ _ c2 hod).2,
      (hk _ _ c3 g2).2, a5, by rw [hg]; exact a6, m1, m2, r1.lasts L, m3, m4, m5, (hk _ _ c3 g2).1, b2, r2.lasts L⟩
end
end Mine
namespace Mine
open PySem
def upc (κ : Addr → Col) (a : Addr) (c : Col) : Addr → Col := fun b => if b = a then c else κ b
def upg (γ : Nat → Addr) (n : Nat) (a : Addr) : Nat → Addr := fun l => if l = n then a else γ l
/-- an expression's end -/
def EvP (T : Tp) (s : Shared) (κ : Addr → Col) (γ : Nat → Addr) (n : Nat) (x : AV) (σ' : Sto) (v : Value) (s' : Shared) : Prop :=
  ∃ κ' γ', Step Pe s κ γ n s' κ' γ' σ'.nx ∧ Inv T s' κ' γ' σ' ∧ Rep T s'.heap κ' γ' σ'.nx x v
/-- the same of several values -/
def EvsP (T : Tp) (s : Shared) (κ : Addr → Col) (γ : Nat → Addr) (n : Nat) (xs : List AV) (σ' : Sto) (vs : List Value) (s' : Shared) : Prop :=
  ∃ κ' γ', Step Pe s κ γ n s' κ' γ' σ'.nx ∧ Inv T s' κ' γ' σ' ∧ RepL T s'.heap κ' γ' σ'.nx xs vs
/-- a test's end -/
def TrP (T : Tp) (s : Shared) (κ : Addr → Col) (γ : Nat → Addr) (n : Nat) (x : Bool) (σ' : Sto) (b : Bool) (s' : Shared) : Prop :=
  ∃ κ' γ', Step Pe s κ γ n s' κ' γ' σ'.nx ∧ Inv T s' κ' γ' σ' ∧ b = x
/-- no exception -/
abbrev NoE : Value → Shared → Prop := fun _ _ => False
section
variable {T : Tp} {s s' s'' : Shared} {κ κ' κ'' : Addr → Col} {γ γ' γ'' : Nat → Addr} {σ σ' σ'' : Sto} {n n' : Nat}
theorem get?_size (h : Heap) : h.get? h.objs.size = none := by
  cases e : h.get? h.objs.size with
  | none => rfl
  | some o => exact absurd (Heap.lt_size e) (Nat.lt_irrefl _)
theorem ne_size {h : Heap} {a : Addr} {o : Obj} (e : h.get? a = some o) : a ≠ h.objs.size := Nat.ne_of_lt (Heap.lt_size e)
theorem ne_size' {h : Heap} {a : Addr} (e : (h.get? a).isSome) : a ≠ h.objs.size := by
  obtain ⟨o, ho⟩ := Option.isSome_iff_exists.mp e
  exact ne_size ho
theorem upc_ne {a b : Addr} {c : Col} (h : b ≠ a) : upc κ a c b = κ b := by simp [upc, h]
theorem upc_self {a : Addr} {c : Col} : upc κ a c a = c := by simp [upc]
theorem upg_ne {l k : Nat} {a : Addr} (h : l ≠ k) : upg γ k a l = γ l := by simp [upg, h]
theorem upg_self {k : Nat} {a : Addr} : upg γ k a k = a := by simp [upg]
theorem EvP.then {x : AV} {v : Value} (h : Step Pe s κ γ n s' κ' γ' n') (k : EvP T s' κ' γ' n' x σ' v s'') : EvP T s κ γ n x σ' v s'' := by
  obtain ⟨a, b, c, d⟩ := k
  exact ⟨a, b, h.te c, d⟩
theorem EvsP.then {x : List AV} {v : List Value} (h : Step Pe s κ γ n s' κ' γ' n') (k : EvsP T s' κ' γ' n' x σ' v s'') : EvsP T s κ γ n x σ' v s'' := by
  obtain ⟨a, b, c, d⟩ := k
  exact ⟨a, b, h.te c, d⟩
theorem TrP.then {x b : Bool} (h : Step Pe s κ γ n s' κ' γ' n') (k : TrP T s' κ' γ' n' x σ' b s'') : TrP T s κ γ n x σ' b s'' := by
  obtain ⟨a, b, c, d⟩ := k
  exact ⟨a, b, h.te c, d⟩
theorem Lasts.step {P : Addr → Col → Prop} (h : Step P s κ γ n s' κ' γ' n') (hp : ∀ a, ¬ P a .fz) : Lasts s.heap κ γ n s'.heap κ' γ' n' := h.lasts hp
theorem Rep.step {x : AV} {v : Value} (r : Rep T s.heap κ γ n x v) (h : Step Pe s κ γ n s' κ' γ' n') : Rep T s'.heap κ' γ' n' x v := r.lasts (h.lasts fun _ => pe_fz)
theorem RepL.step {x : List AV} {v : List Value} (r : RepL T s.heap κ γ n x v) (h : Step Pe s κ γ n s' κ' γ' n') : RepL T s'.heap κ' γ' n' x v := r.lasts (h.lasts fun _ => pe_fz)
theorem Rep.steps {W : Addr → Prop} {x : AV} {v : Value} (r : Rep T s.heap κ γ n x v) (h : Step (Ps W) s κ γ n s' κ' γ' n') : Rep T s'.heap κ' γ' n' x v := r.lasts (h.lasts fun _ => ps_fz)
theorem RepL.steps {W : Addr → Prop} {x : List AV} {v : List Value} (r : RepL T s.heap κ γ n x v) (h : Step (Ps W) s κ γ n s' κ' γ' n') : RepL T s'.heap κ' γ' n' x v := r.lasts (h.lasts fun _ => ps_fz)
/-- only the tokens go on -/
theorem Step.toks {P : Addr → Col → Prop} {tk : Nat} : Step P s κ γ n { s with toks := tk } κ γ n := ⟨fun _ _ e _ => e, fun _ e => e, fun _ _ _ => rfl, fun _ _ => rfl, Nat.le_refl _, rfl, rfl⟩
theorem Inv.toks (I : Inv T s κ γ σ) {tk : Nat} : Inv T { s with toks := tk } κ γ σ := ⟨I.base, I.objs⟩
theorem EvP.toks (I : Inv T s κ γ σ) {x : AV} {v : Value} (r : Rep T s.heap κ γ σ.nx x v) {tk : Nat} : EvP T s κ γ σ.nx x σ v { s with toks := tk } := ⟨κ, γ, .toks, I.toks, r⟩
theorem EvP.here (I : Inv T s κ γ σ) {x : AV} {v : Value} (r : Rep T s.heap κ γ σ.nx x v) : EvP T s κ γ σ.nx x σ v s := ⟨κ, γ, .refl, I, r⟩
/-- a heap that keeps all -/
theorem Step.keeps {P : Addr → Col → Prop} {h' : Heap} {tk : Nat} (hk : ∀ a o, s.heap.get? a = some o → h'.get? a = some o) {κ' : Addr → Col} (hc : ∀ a, (s.heap.get? a).isSome → κ' a = κ a) :
    Step P s κ γ n { s with heap := h', toks := tk } κ' γ n :=
  ⟨fun a o e _ => hk a o e, fun a e => by obtain ⟨o, ho⟩ := Option.isSome_iff_exists.mp e; show (h'.get? a).isSome; rw [hk a o ho]; rfl, fun a e _ => hc a e, fun _ _ => rfl, Nat.le_refl _, rfl, rfl⟩
theorem Lasts.keeps {h h' : Heap} (hk : ∀ a o, h.get? a = some o → h'.get? a = some o) {κ' : Addr → Col} (hc : ∀ a, (h.get? a).isSome → κ' a = κ a) : Lasts h κ γ n h' κ' γ n :=
  ⟨fun a o e q => ⟨hk a o e, by rw [hc a (by rw [e]; rfl), q]⟩, fun _ _ => rfl, Nat.le_refl _⟩
theorem Inv.keeps (I : Inv T s κ γ σ) {h' : Heap} {tk : Nat} (hk : ∀ a o, s.heap.get? a = some o → h'.get? a = some o) {κ' : Addr → Col} (hc : ∀ a, (s.heap.get? a).isSome → κ' a = κ a) :
    Inv T { s with heap := h', toks := tk } κ' γ σ where
  base a o e := by
    have z := I.base a o e
    exact ⟨hk _ _ z.1, by rw [hc a (by rw [z.1]; rfl)]; exact z.2⟩
  objs l o e := by
    have z := I.objs l o e
    exact ⟨z.1, z.2.lasts (.keeps hk hc) z.1 fun a o q g => ⟨hk _ _ g, by rw [hc a (by rw [g]; rfl)]; exact q⟩⟩
/-- one new object, its colour of choice -/
theorem push_keeps (h : Heap) (o : Obj) : ∀ a o', h.get? a = some o' → (h.push o).get? a = some o' := fun _ _ e => Heap.get?_push_of_some _ e
theorem upc_size {h : Heap} (c : Col) : ∀ a, (h.get? a).isSome → upc κ h.objs.size c a = κ a := fun _ e => upc_ne (ne_size' e)
theorem Step.push {P : Addr → Col → Prop} (o : Obj) (c : Col) {tk : Nat} : Step P s κ γ n { s with heap := s.heap.push o, toks := tk } (upc κ s.heap.objs.size c) γ n := .keeps (push_keeps _ _) (upc_size c)
theorem Inv.push (I : Inv T s κ γ σ) (o : Obj) (c : Col) {tk : Nat} : Inv T { s with heap := s.heap.push o, toks := tk } (upc κ s.heap.objs.size c) γ σ := I.keeps (push_keeps _ _) (upc_size c)
theorem Lasts.push (h : Heap) (o : Obj) (c : Col) : Lasts h κ γ n (h.push o) (upc κ h.objs.size c) γ n := .keeps (push_keeps _ _) (upc_size c)
/-- a new frozen list -/
theorem Rep.newList {vs : List Value} {xs : List AV} {ep : Nat} (r : RepL T s.heap κ γ n xs vs) (b : xs.length ≤ 2 ^ 24) :
    Rep T (s.heap.push (lobj vs ep)) (upc κ s.heap.objs.size .fz) γ n (.list xs) (.ref s.heap.objs.size) :=
  ⟨_, vs, ep, rfl, upc_self, Heap.get?_push_size _ rfl, b, r.lasts (.push _ _ _)⟩
theorem Rep.newTuple {vs : List Value} {xs : List AV} {ep : Nat} (r : RepL T s.heap κ γ n xs vs) (b : xs.length ≤ 2 ^ 24) :
    Rep T (s.heap.push (tobj vs ep)) (upc κ s.heap.objs.size .fz) γ n (.tuple xs) (.ref s.heap.objs.size) :=
  ⟨_, vs, ep, rfl, upc_self, Heap.get?_push_size _ rfl, b, r.lasts (.push _ _ _)⟩
/-- a new location -/
theorem Sto.new_get (σ : Sto) (o : AObj) (l : Nat) : (σ.new o).get l = if l = σ.nx then some o else σ.get l := rfl
theorem Step.new {P : Addr → Col → Prop} {h' : Heap} {tk : Nat} {a : Addr} {κ' : Addr → Col} (hk : ∀ a o, s.heap.get? a = some o → h'.get? a = some o) (hc : ∀ a, (s.heap.get? a).isSome → κ' a = κ a) :
    Step P s κ γ n { s with heap := h', toks := tk } κ' (upg γ n a) (n + 1) :=
  ⟨fun a o e _ => hk a o e, fun a e => by obtain ⟨o, ho⟩ := Option.isSome_iff_exists.mp e; show (h'.get? a).isSome; rw [hk a o ho]; rfl, fun a e _ => hc a e,
    fun l hl => upg_ne (Nat.ne_of_lt hl), Nat.le_succ _, rfl, rfl⟩
theorem Lasts.new {h h' : Heap} {a : Addr} {κ' : Addr → Col} (hk : ∀ a o, h.get? a = some o → h'.get? a = some o) (hc : ∀ a, (h.get? a).isSome → κ' a = κ a) :
    Lasts h κ γ n h' κ' (upg γ n a) (n + 1) :=
  ⟨fun a o e q => ⟨hk a o e, by rw [hc a (by rw [e]; rfl), q]⟩, fun l hl => upg_ne (Nat.ne_of_lt hl), Nat.le_succ _⟩
theorem Inv.new (I : Inv T s κ γ σ) {h' : Heap} {tk : Nat} {a : Addr} {κ' : Addr → Col} {o : AObj} (hk : ∀ a o, s.heap.get? a = some o → h'.get? a = some o) (hc : ∀ a, (s.heap.get? a).isSome → κ' a = κ a)
    (r : ORep T h' κ' (upg γ σ.nx a) (σ.nx + 1) σ.nx o) : Inv T { s with heap := h', toks := tk } κ' (upg γ σ.nx a) (σ.new o) where
  base a o e := by
    have z := I.base a o e
    exact ⟨hk _ _ z.1, by rw [hc a (by rw [z.1]; rfl)]; exact z.2⟩
  objs l o' e := by
    rw [Sto.new_get] at e
    split at e
    · rename_i q
      subst q
      injection e with e
      subst e
      exact ⟨Nat.lt_succ_self _, r⟩
    · have z := I.objs l o' e
      exact ⟨Nat.lt_succ_of_lt z.1, z.2.lasts (.new hk hc) z.1 fun a o q g => ⟨hk _ _ g, by rw [hc a (by rw [g]; rfl)]; exact q⟩⟩
/-- one location is written to: the addresses of its colour alone change -/
theorem Step.upd {l : Nat} {h' : Heap} {tk : Nat} (hk : ∀ a o, κ a ≠ .ob l → s.heap.get? a = some o → h'.get? a = some o) (ha : ∀ a, (s.heap.get? a).isSome → (h'.get? a).isSome) :
    Step Pe s κ γ n { s with heap := h', toks := tk } κ γ n :=
  ⟨fun a o e q => hk a o (fun c => q (by rw [c]; rfl)) e, ha, fun _ _ _ => rfl, fun _ _ => rfl, Nat.le_refl _, rfl, rfl⟩
theorem Lasts.upd {l : Nat} {h h' : Heap} (hk : ∀ a o, κ a ≠ .ob l → h.get? a = some o → h'.get? a = some o) : Lasts h κ γ n h' κ γ n :=
  ⟨fun a o e q => ⟨hk a o (by rw [q]; intro c; cases c) e, q⟩, fun _ _ => rfl, Nat.le_refl _⟩
theorem Sto.upd_get (σ : Sto) (l : Nat) (o : AObj) (k : Nat) : (σ.upd l o).get k = if k = l then some o else σ.get k := rfl
theorem Inv.upd (I : Inv T s κ γ σ) {l : Nat} {h' : Heap} {tk : Nat} {o : AObj} (hl : l < σ.nx) (hk : ∀ a o, κ a ≠ .ob l → s.heap.get? a = some o → h'.get? a = some o)
    (r : ORep T h' κ γ σ.nx l o) : Inv T { s with heap := h', toks := tk } κ γ (σ.upd l o) where
  base a o e := by
    have z := I.base a o e
    exact ⟨hk _ _ (by rw [z.2]; intro c; cases c) z.1, z.2⟩
  objs k o' e := by
    rw [Sto.upd_get] at e
    split at e
    · rename_i q
      subst q
      injection e with e
      subst e
      exact ⟨hl, r⟩
    · rename_i q
      have z := I.objs k o' e
      exact ⟨z.1, z.2.lasts (.upd hk) z.1 fun a o c g => ⟨hk _ _ (by rw [c]; intro c; injection c with c; exact q c) g, c⟩⟩
/-- what is forgotten is no matter -/
theorem Inv.less (I : Inv T s κ γ σ) {g : Nat → Option AObj} (h : ∀ l o, g l = some o → σ.get l = some o) : Inv T s κ γ { σ with get := g } :=
  ⟨I.base, fun l o e => I.objs l o (h l o e)⟩
end
end Mine
namespace Mine
open PySem
section
variable {T : Tp} {A : Around} {s s' s'' : Shared} {κ κ' κ'' : Addr → Col} {γ γ' γ'' : Nat → Addr} {σ σ' σ'' : Sto} {n n' : Nat}
theorem RepL.length : ∀ {xs : List AV} {vs : List Value} {h : Heap}, RepL T h κ γ n xs vs → vs.length = xs.length
  | [], _, _, r => by rw [show _ = [] from r]; rfl
  | x :: xs, _, _, r => by
    obtain ⟨v, us, e, _, q⟩ := r
    subst e
    simp [RepL.length q]
theorem RepL.append : ∀ {xs ys : List AV} {vs us : List Value} {h : Heap}, RepL T h κ γ n xs vs → RepL T h κ γ n ys us → RepL T h κ γ n (xs ++ ys) (vs ++ us)
  | [], _, _, _, _, r, q => by rw [show _ = [] from r]; exact q
  | x :: xs, _, _, _, _, r, q => by
    obtain ⟨v, us, e, a, b⟩ := r
    subst e
    exact ⟨v, _, rfl, a, RepL.append b q⟩
theorem RepL.nil {h : Heap} : RepL T h κ γ n [] [] := rfl
theorem RepL.one {h : Heap} {x : AV} {v : Value} (r : Rep T h κ γ n x v) : RepL T h κ γ n [x] [v] := ⟨v, [], rfl, r, rfl⟩
theorem RepL.get : ∀ {xs : List AV} {vs : List Value} {h : Heap} {k : Nat} {x : AV}, RepL T h κ γ n xs vs → xs[k]? = some x → ∃ v, vs[k]? = some v ∧ Rep T h κ γ n x v
  | [], _, _, _, _, _, e => by simp at e
  | x :: xs, _, _, 0, _, r, e => by
    obtain ⟨v, us, q, a, b⟩ := r
    subst q
    simp at e
    subst e
    exact ⟨v, rfl, a⟩
  | x :: xs, _, _, k + 1, _, r, e => by
    obtain ⟨v, us, q, a, b⟩ := r
    subst q
    simp at e
    obtain ⟨u, h1, h2⟩ := RepL.get b e
    exact ⟨u, by simpa using h1, h2⟩
theorem RepL.get_none {xs : List AV} {vs : List Value} {h : Heap} {k : Nat} (r : RepL T h κ γ n xs vs) (e : xs[k]? = none) : vs[k]? = none := by
  rw [List.getElem?_eq_none_iff] at e ⊢
  rw [r.length]; exact e
theorem RepL.take : ∀ {xs : List AV} {vs : List Value} {h : Heap} (k : Nat), RepL T h κ γ n xs vs → RepL T h κ γ n (xs.take k) (vs.take k)
  | _, _, _, 0, _ => rfl
  | [], _, _, _ + 1, r => by rw [show _ = [] from r]; rfl
  | x :: xs, _, _, k + 1, r => by
    obtain ⟨v, us, q, a, b⟩ := r
    subst q
    exact ⟨v, _, rfl, a, RepL.take k b⟩
theorem RepL.drop : ∀ {xs : List AV} {vs : List Value} {h : Heap} (k : Nat), RepL T h κ γ n xs vs → RepL T h κ γ n (xs.drop k) (vs.drop k)
  | _, _, _, 0, r => r
  | [], _, _, _ + 1, r => by rw [show _ = [] from r]; rfl
  | x :: xs, _, _, k + 1, r => by
    obtain ⟨v, us, q, a, b⟩ := r
    subst q
    exact RepL.drop k b
theorem RepL.reverse {xs : List AV} {vs : List Value} {h : Heap} (r : RepL T h κ γ n xs vs) : RepL T h κ γ n xs.reverse vs.reverse := by
  induction xs generalizing vs with
  | nil => rw [show vs = [] from r]; rfl
  | cons x xs ih =>
    obtain ⟨v, us, q, a, b⟩ := r
    subst q
    rw [List.reverse_cons, List.reverse_cons]
    exact (ih b).append (.one a)
theorem RepL.ints {h : Heap} : ∀ {xs : List AV} {is : List Int} {vs : List Value}, intsA xs = some is → RepL T h κ γ n xs vs → PyProof.Rows.IntsAre vs is
  | [], is, vs, e, r => by
    rw [show vs = [] from r]
    simp [intsA] at e
    subst e
    exact .nil
  | .int i :: xs, is, vs, e, r => by
    obtain ⟨v, us, q, ⟨t, a⟩, b⟩ := r
    subst q a
    simp only [intsA, Option.map_eq_some_iff] at e
    obtain ⟨js, hj, rfl⟩ := e
    exact .cons _ _ (RepL.ints hj b)
  | .none :: _, _, _, e, _ | .bool _ :: _, _, _, e, _ | .str _ :: _, _, _, e, _ | .list _ :: _, _, _, e, _ | .tuple _ :: _, _, _, e, _ | .dict _ _ :: _, _, _, e, _
  | .range _ _ :: _, _, _, e, _ | .loc _ :: _, _, _, e, _ | .stream _ :: _, _, _, e, _ | .glob _ :: _, _, _, e, _ | .bi _ :: _, _, _, e, _ | .opq _ :: _, _, _, e, _ => by simp [intsA] at e
/-- a list's items, frozen or at a location -/
theorem lst_rep (I : Inv T s κ γ σ) {x : AV} {v : Value} {xs : List AV} (r : Rep T s.heap κ γ σ.nx x v) (e : lst? σ x = some xs) :
    ∃ a vs ep, v = .ref a ∧ s.heap.get? a = some (lobj vs ep) ∧ xs.length ≤ 2 ^ 24 ∧ RepL T s.heap κ γ σ.nx xs vs := by
  cases x with
  | list ys =>
    simp [lst?] at e
    subst e
    obtain ⟨a, vs, ep, h1, _, h2, h4, h3⟩ := r
    exact ⟨a, vs, ep, h1, h2, h4, h3⟩
  | loc l =>
    simp only [lst?] at e
    split at e
    · rename_i ys hy
      simp at e
      subst e
      obtain ⟨_, vs, ep, _, h2, h4, h3⟩ := I.objs _ _ hy
      exact ⟨_, vs, ep, r.1, h2, h4, h3⟩
    · cases e
  | _ => simp [lst?] at e
/-- a list is made: frozen, or at a location -/
theorem mkL_post (I : Inv T s κ γ σ) (c : Cfg) (p : Pos) {xs : List AV} {vs : List Value} (r : RepL T s.heap κ γ σ.nx xs vs) (b : xs.length ≤ 2 ^ 24) {ep tk : Nat} :
    EvP T s κ γ σ.nx (mkL c p xs σ).1 (mkL c p xs σ).2 (.ref s.heap.objs.size) { s with heap := s.heap.push (lobj vs ep), toks := tk } := by
  unfold mkL
  split
  · refine ⟨upc κ s.heap.objs.size (.ob σ.nx), upg γ σ.nx s.heap.objs.size, .new (push_keeps _ _) (upc_size _), ?_, ?_⟩
    · refine I.new (push_keeps _ _) (upc_size _) ⟨vs, ep, ?_, ?_, b, ?_⟩
      · rw [upg_self, upc_self]
      · rw [upg_self]; exact Heap.get?_push_size _ rfl
      · exact r.lasts (.new (push_keeps _ _) (upc_size _))
    · exact ⟨by rw [upg_self], Nat.lt_succ_self _⟩
  · exact ⟨_, _, .push _ .fz, I.push _ _, .newList r b⟩
theorem EvP.int (I : Inv T s κ γ σ) {i : Int} {t tk : Nat} : EvP T s κ γ σ.nx (.int i) σ (.int i t) { s with toks := tk } := EvP.toks (x := .int i) I ⟨t, rfl⟩
theorem EvP.str (I : Inv T s κ γ σ) {x : Str} {t tk : Nat} : EvP T s κ γ σ.nx (.str x) σ (.str x t) { s with toks := tk } := EvP.toks (x := .str x) I ⟨t, rfl⟩
theorem EvP.bool (I : Inv T s κ γ σ) {b : Bool} {tk : Nat} : EvP T s κ γ σ.nx (.bool b) σ (.bool b) { s with toks := tk } := EvP.toks (x := .bool b) I rfl
theorem EvP.bool' (I : Inv T s κ γ σ) {b : Bool} : EvP T s κ γ σ.nx (.bool b) σ (.bool b) s := EvP.here (x := .bool b) I rfl
theorem EvP.none' (I : Inv T s κ γ σ) : EvP T s κ γ σ.nx .none σ .none s := EvP.here (x := .none) I rfl
theorem mulList {l : Addr} {vs : List Value} {ep : Nat} {u : Tok} {Q : Value → Shared → Prop} (hl : s.heap.get? l = some (lobj vs ep)) (hsz : vs.length ≤ 100)
    (h : Q (.ref s.heap.objs.size) { s with heap := s.heap.push (lobj (vs ++ vs) 0) }) : wpAny (model T.prog T.w) A (binaryOp .Mult (.ref l) (.int 2 u)) Q NoE s := by
  have hl' : s.heap.get? l = some { cls := .type "list", dict := none, data := .seq vs.toArray ep, slots := #[] } := hl
  refine wpAny_binaryOp_repeat_ref (T := "list") (U := "int") (by decide) ⟨_, hl, rfl⟩ (fun s' => typeIs_int s' 2 u) noFill_list_mul F.fills_int_mul F.slot_int_rmul repeat_list F.slot_int_index.lookup
    (call_meets F.slot_int_rmul (typeIs_int s 2 u) F.entry_int_rmul (F.args_int_rmul_2 _ _) (int___rmul___int_list 2 u l vs.toArray ep)
      ⟨hl', rfl, ⟨_, hl, rfl⟩, call_meets F.slot_list_mul ⟨_, hl, rfl⟩ F.entry_list_mul (F.args_list_mul_2 _ _)
        (AutoListH.list___mul___list_int_3 l vs.toArray ep 2 u (by decide) (by simp; omega) (by simp [Builtin.List.listTooLong, sizeLine]; omega))
        ⟨hl', ?_⟩⟩)
  have e : (List.foldl (fun x1 x2 => x1 ++ x2) #[] (List.replicate (if vs.toArray.isEmpty = true then 0 else (2 : Int).toNat) vs.toArray) : Array Value) = (vs ++ vs).toArray := by
    cases vs with
    | nil => rfl
    | cons v vs => simp [List.replicate]
  rw [e]
  exact h
theorem addStr_post {Q : Value → Shared → Prop} {x y : Str} {t u : Tok} (h : ∀ t' tk, Q (.str (x ++ y) t') { s with toks := tk }) (hsz : x.length + y.length ≤ sizeLine) :
    wpAny (model T.prog T.w) A (binaryOp .Add (.str x t) (.str y u)) Q NoE s := PyProof.Rows.add_str h hsz
theorem intBits_small {a : Int} (h : a.natAbs < 2 ^ 31) : Builtin.Int.intBits a ≤ 64 := by
  unfold Builtin.Int.intBits
  split
  · omega
  · rename_i hz
    have h0 : a.natAbs ≠ 0 := by
      intro e
      apply hz
      simp only [Int.natAbs_eq_zero] at e
      simp [e]
    have := (Nat.log2_lt h0).mpr h
    omega
end
section
variable {T : Tp} {A : Around} {s : Shared} {κ : Addr → Col} {γ : Nat → Addr} {σ σ' : Sto}
theorem bin_ok (I : Inv T s κ γ σ) {c : Cfg} {p : Pos} {op : Operator} {x y z : AV} {v u : Value} (e : binA c p op x y σ = some (z, σ'))
    (rx : Rep T s.heap κ γ σ.nx x v) (ry : Rep T s.heap κ γ σ.nx y u) :
    wpAny (model T.prog T.w) A (binaryOp op v u) (EvP T s κ γ σ.nx z σ') NoE s := by
  unfold binA at e
  split at e
  · -- int + int
    obtain ⟨t, rfl⟩ := rx; obtain ⟨t', rfl⟩ := ry
    simp at e; obtain ⟨rfl, rfl⟩ := e
    exact P.add_int (EvP.int I)
  · obtain ⟨t, rfl⟩ := rx; obtain ⟨t', rfl⟩ := ry
    simp at e; obtain ⟨rfl, rfl⟩ := e
    exact P.sub_int (EvP.int I)
  · obtain ⟨t, rfl⟩ := rx; obtain ⟨t', rfl⟩ := ry
    split at e
    · rename_i hb
      simp at e; obtain ⟨rfl, rfl⟩ := e
      exact P.mul_int (EvP.int I) (IntMulOk.of_left (intBits_small hb.1))
    · cases e
  · obtain ⟨t, rfl⟩ := rx; obtain ⟨t', rfl⟩ := ry
    split at e
    · rename_i hb
      simp at e; obtain ⟨rfl, rfl⟩ := e
      exact PyProof.Rows.floordiv_int (by omega) (EvP.int I) (.inl (PyProof.noPylong_small (by omega)))
    · cases e
  · obtain ⟨t, rfl⟩ := rx; obtain ⟨t', rfl⟩ := ry
    split at e
    · rename_i hb
      simp at e; obtain ⟨rfl, rfl⟩ := e
      exact PyProof.Rows.mod_int' (by omega) (EvP.int I)
    · cases e
  · obtain ⟨t, rfl⟩ := rx; obtain ⟨t', rfl⟩ := ry
    split at e
    · rename_i hb
      obtain ⟨rfl, rfl⟩ := hb
      simp at e; obtain ⟨rfl, rfl⟩ := e
      exact PyProof.Rows.pow_int (by omega) (by decide) (EvP.int I)
    · cases e
  · obtain ⟨t, rfl⟩ := rx; obtain ⟨t', rfl⟩ := ry
    split at e
    · rename_i hb
      simp at e; obtain ⟨rfl, rfl⟩ := e
      exact addStr_post (fun _ _ => EvP.str I) hb
    · cases e
  · obtain ⟨a, vs, ep, rfl, _, g, _, q⟩ := rx; obtain ⟨t', rfl⟩ := ry
    split at e
    · rename_i hb
      obtain ⟨rfl, hl⟩ := hb
      simp at e
      refine mulList g (by rw [q.length]; exact hl) ?_
      have := mkL_post I c p (q.append q) (by simp only [List.length_append]; omega) (ep := 0) (tk := s.toks)
      rw [e] at this
      exact this
    · cases e
  · simp only [Option.bind_eq_bind, Option.bind_eq_some_iff] at e
    obtain ⟨xs, hx, ys, hy, e⟩ := e
    split at e
    · rename_i hsz
      simp at e
      obtain ⟨a, vs, ep, rfl, g, _, q⟩ := lst_rep I rx hx
      obtain ⟨b, us, ep', rfl, g', _, q'⟩ := lst_rep I ry hy
      refine P.add_list g g' ?_ ?_
      · have := mkL_post I c p (q.append q') (by simp only [List.length_append]; omega) (ep := 0) (tk := s.toks)
        rw [e] at this
        simpa [lobj] using this
      · have h1 := q.length
        have h2 := q'.length
        simp only [List.size_toArray, sizeLine]
        omega
    · cases e
  · cases e
end
end Mine
namespace Mine
open PySem
section
variable {T : Tp} {A : Around} {s : Shared} {κ : Addr → Col} {γ : Nat → Addr} {σ σ' : Sto}
theorem lobj_list {h : Heap} {a : Addr} {vs : List Value} {ep : Nat} (g : h.get? a = some (lobj vs ep)) : h.IsList a vs.toArray := ⟨_, g, rfl, ep, rfl⟩
theorem truth_ok (I : Inv T s κ γ σ) {x : AV} {v : Value} {b : Bool} (e : truthA σ x = some b) (r : Rep T s.heap κ γ σ.nx x v) :
    wpAny (model T.prog T.w) A (truthy v) (TrP T s κ γ σ.nx b σ) NoE s := by
  unfold truthA at e
  split at e
  · simp at e; subst e; rw [show v = .none from r]
    exact PyProof.Rows.truthy_none ⟨κ, γ, .refl, I, rfl⟩
  · simp at e; subst e; rw [show v = .bool _ from r]
    exact wpAny_truthy_bool ⟨κ, γ, .refl, I, rfl⟩
  · simp at e; subst e; obtain ⟨t, rfl⟩ := r
    exact P.truthy_int ⟨κ, γ, .refl, I, rfl⟩
  · simp only [Option.map_eq_some_iff] at e
    obtain ⟨xs, hx, rfl⟩ := e
    obtain ⟨a, vs, ep, rfl, g, b, q⟩ := lst_rep I r hx
    refine wpAny_truthy_list (lobj_list g) ?_ ⟨κ, γ, .toks, I.toks, ?_⟩
    · have := q.length
      simp only [List.size_toArray]
      omega
    · have := q.length
      cases xs <;> cases vs <;> simp_all
theorem idx_lt {n : Nat} {i : Int} {k : Nat} (e : idx n i = some k) : k < n ∧ -(n : Int) ≤ i ∧ i < n := by
  unfold idx seqIndex? at e
  dsimp only at e
  split at e
  · split at e
    · rename_i h
      simp at h e
      omega
    · cases e
  · split at e
    · rename_i h
      simp at h e
      omega
    · cases e
theorem getItem_list_at {a : Addr} {vs : List Value} {ep : Nat} {i : Int} {t : Tok} {k : Nat} {u : Value} {Q : Value → Shared → Prop} (g : s.heap.get? a = some (lobj vs ep)) (hl : vs.length ≤ 2 ^ 24)
    (hi : idx vs.length i = some k) (hu : vs[k]? = some u) (h : Q u s) : wpAny (model T.prog T.w) A (getItem (.ref a) (.int i t)) Q NoE s := by
  have b := idx_lt hi
  by_cases h0 : 0 ≤ i
  · have hk : k = i.toNat := by
      unfold idx at hi
      rw [seqIndex_of h0 b.2.2] at hi
      exact (Option.some.inj hi).symm
    subst hk
    exact wpAny_getItem_list (lobj_list g) h0 (by omega) (by simpa using hu) h
  · have hk : k = (i + vs.length).toNat := by
      unfold idx at hi
      rw [seqIndex_neg (by omega) b.2.1] at hi
      exact (Option.some.inj hi).symm
    subst hk
    exact wpAny_getItem_list_neg (lobj_list g) (by omega) (by simp; omega) (by omega) (by simpa using hu) h
theorem lk_valueAt {K : Type} [DecidableEq K] (k : K) : ∀ (l : List K) (us : List Value), valueAt (l.zip us) k = lk k l us
  | [], _ => by simp [valueAt, lk]
  | _ :: _, [] => by simp [valueAt, lk]
  | x :: l, u :: us => by
    have ih := lk_valueAt k l us
    simp only [valueAt, List.zip_cons_cons, List.find?_cons, lk] at ih ⊢
    by_cases h : x = k
    · simp [h]
    · simp [h, ih]
/-- what is found, or nothing -/
def ORel (T : Tp) (h : Heap) (κ : Addr → Col) (γ : Nat → Addr) (n : Nat) : Option AV → Option Value → Prop
  | some x, u => ∃ w, u = some w ∧ Rep T h κ γ n x w
  | none, u => u = none
theorem RepL.lk {K : Type} [DecidableEq K] {n : Nat} {h : Heap} (k : K) : ∀ {l : List K} {xs : List AV} {us : List Value}, RepL T h κ γ n xs us → ORel T h κ γ n (Mine.lk k l xs) (Mine.lk k l us)
  | [], xs, us, r => by simp [Mine.lk, ORel]
  | _ :: _, [], us, r => by rw [show us = [] from r]; simp [Mine.lk, ORel]
  | y :: l, x :: xs, _, r => by
    obtain ⟨v, us, rfl, a, b⟩ := r
    simp only [Mine.lk]
    by_cases h : y = k
    · simp only [if_pos h]
      exact ⟨v, rfl, a⟩
    · simp only [if_neg h]
      exact RepL.lk k b
theorem isInt_self (i : Int) (t : Tok) : (intKind T.prog T.w).is i (.int i t) = true := by simp [intKind, Value.isInt]
theorem isStr_self (x : Str) (t : Tok) : (strKind T.prog T.w).is x (.str x t) = true := by simp [strKind, Value.isStrOf]
/-- a key found, or not, in a dict -/
theorem findKey_rep {h : Heap} {n : Nat} {a : Addr} {ks : Keys} {xs : List AV} {us : List Value} {k : AV} {v : Value} {r : Option AV} (D : DRep T h a ks us) (L : RepL T h κ γ n xs us)
    (rk : Rep T h κ γ n k v) (e : findKey k ks xs = some r) :
    ∃ u : Option Value, ORel T h κ γ n r u ∧
      ((∃ i f, (intKind T.prog T.w).is i v = true ∧ h.MapOf (intKind T.prog T.w) a f ∧ f i = u) ∨ (∃ i f, (strKind T.prog T.w).is i v = true ∧ h.MapOf (strKind T.prog T.w) a f ∧ f i = u)) := by
  unfold findKey at e
  split at e
  · simp only [Option.some.injEq] at e
    subst e
    obtain ⟨t, rfl⟩ := rk
    rename_i i l
    exact ⟨Mine.lk i l us, L.lk i, .inl ⟨i, _, isInt_self i t, D.2.mapOf, lk_valueAt i l us⟩⟩
  · simp only [Option.some.injEq] at e
    subst e
    obtain ⟨t, rfl⟩ := rk
    rename_i i l
    exact ⟨Mine.lk i l us, L.lk i, .inr ⟨i, _, isStr_self i t, D.2.mapOf, lk_valueAt i l us⟩⟩
  · cases e
theorem get_ok (I : Inv T s κ γ σ) {x i z : AV} {v u : Value} (e : getA σ x i = some z) (rx : Rep T s.heap κ γ σ.nx x v) (ri : Rep T s.heap κ γ σ.nx i u) :
    (∃ Ty id, s.TypeIs v Ty ∧ typeLookup (.type Ty) "__getitem__" = pure (some (.builtin id))) ∧ wpAny (model T.prog T.w) A (getItem v u) (EvP T s κ γ σ.nx z σ) NoE s := by
  unfold getA at e
  split at e
  · split at e
    · rename_i y i hb
      obtain ⟨t, rfl⟩ := rx; obtain ⟨t', rfl⟩ := ri
      refine ⟨⟨"str", _, typeIs_str _ _ _, F.slot_str_getitem.lookup⟩, ?_⟩
      simp only [Option.map_eq_some_iff] at e
      obtain ⟨ch, hc, rfl⟩ := e
      have hk : ∃ k, idx y.length i = some k := by
        cases h : idx y.length i with
        | none => rw [h] at hc; simp at hc
        | some k => exact ⟨k, rfl⟩
      obtain ⟨k, hk⟩ := hk
      have b := idx_lt hk
      exact P.getItem_str (by simp; omega) hc (EvP.str I)
    · cases e
  · obtain ⟨a, us, rfl, c, ns, D, L⟩ := rx
    simp only [Option.bind_eq_some_iff, id] at e
    obtain ⟨r, hr, rfl⟩ := e
    obtain ⟨o, ⟨w, rfl, rw'⟩, hm⟩ := findKey_rep D L ri hr
    rcases hm with ⟨k, f, h1, h2, h3⟩ | ⟨k, f, h1, h2, h3⟩
    · exact ⟨⟨"dict", _, h2.typeIs, slot_dict_getitem.lookup⟩, wpAny_getItem_of h1 h2 h3 (EvP.toks I rw')⟩
    · exact ⟨⟨"dict", _, h2.typeIs, slot_dict_getitem.lookup⟩, wpAny_getItem_of h1 h2 h3 (EvP.toks I rw')⟩
  · obtain ⟨a, vs, ep, rfl, c, g, b, q⟩ := rx; obtain ⟨t', rfl⟩ := ri
    simp only [Option.bind_eq_some_iff] at e
    obtain ⟨k, hk, hz⟩ := e
    obtain ⟨w, hw, rw'⟩ := q.get hz
    have hl := q.length
    have hb := idx_lt hk
    refine ⟨⟨"tuple", _, ⟨_, g, rfl⟩, F.slot_tuple_getitem.lookup⟩, ?_⟩
    exact P.getItem_tuple (n := ep) (items := vs.toArray) g (by omega) (by omega) (by unfold idx at hk; simpa [hl] using hk) (by simpa using hw) (EvP.here I rw')
  · simp only [Option.bind_eq_some_iff] at e
    obtain ⟨xs, hx, k, hk, hz⟩ := e
    obtain ⟨a, vs, ep, rfl, g, b, q⟩ := lst_rep I rx hx
    obtain ⟨t', rfl⟩ := ri
    obtain ⟨w, hw, rw'⟩ := q.get hz
    refine ⟨⟨"list", _, ⟨_, g, rfl⟩, slot_list_getitem.lookup⟩, ?_⟩
    exact getItem_list_at g (by rw [q.length]; exact b) (by rw [q.length]; exact hk) hw (EvP.here I rw')
  · cases e
end
end Mine
namespace Mine
open PySem
section
variable {T : Tp} {A : Around} {s : Shared} {κ : Addr → Col} {γ : Nat → Addr} {σ σ' : Sto}
theorem pick_cut {α : Type} (xs : Array α) (lo hi : Option Int) (a b : Int) (ha : a = ((cut xs.size lo hi).1 : Nat)) (hb : b = ((cut xs.size lo hi).2 : Nat)) :
    (sliceRange a b 1).filterMap (xs[·]?) = cutL xs.toList lo hi := by
  subst ha hb
  rw [sliceRange_one, pick_run]
  unfold cutL
  simp only [Array.length_toList]
  rw [List.drop_take]
theorem bounds_cut (lo hi : Option Int) (n : Nat) : (sliceBounds lo hi none n).1 = ((cut n lo hi).1 : Nat) ∧ (sliceBounds lo hi none n).2.1 = ((cut n lo hi).2 : Nat) ∧ (sliceBounds lo hi none n).2.2 = 1 := by
  unfold sliceBounds cut
  simp only [Option.getD_none]
  refine ⟨?_, ?_, trivial⟩
  · cases lo with
    | none => simp
    | some i => simp only [show (1 : Int) > 0 by decide, if_true]; split <;> omega
  · cases hi with
    | none => simp
    | some i => simp only [show (1 : Int) > 0 by decide, if_true]; split <;> omega
theorem slicePick_cut (vs : List Value) (lo hi : Option Int) : slicePick vs.toArray lo hi none = (cutL vs lo hi).toArray := by
  have b := bounds_cut lo hi vs.toArray.size
  unfold slicePick
  rw [b.2.2, pick_cut vs.toArray lo hi _ _ b.1 b.2.1]
theorem strIdx_cut (x : Str) (lo hi : Option Int) : (Builtin.Str.strSliceIndices lo hi 1 x.length).filterMap (x.cps[·]?) = cutL x.cps.toList lo hi := by
  have b := bounds_cut lo hi x.cps.size
  unfold Builtin.Str.strSliceIndices
  refine pick_cut x.cps lo hi _ _ ?_ ?_
  · rw [← b.1]; rfl
  · rw [← b.2.1]; rfl
theorem RepL.cut {h : Heap} {n : Nat} {xs : List AV} {vs : List Value} (r : RepL T h κ γ n xs vs) (lo hi : Option Int) : RepL T h κ γ n (cutL xs lo hi) (cutL vs lo hi) := by
  unfold cutL
  rw [r.length]
  exact (r.take _).drop _
theorem cutL_length {α : Type} (xs : List α) (lo hi : Option Int) : (cutL xs lo hi).length ≤ xs.length := by
  unfold cutL
  simp only [List.length_drop, List.length_take]
  omega
theorem filterMap_all {α : Type} (xs : Array α) (l : List Nat) (h : ∀ i ∈ l, i < xs.size) : (l.filterMap (xs[·]?)).length = l.length := by
  induction l with
  | nil => rfl
  | cons i l ih =>
    have hi := h i List.mem_cons_self
    simp only [List.filterMap_cons, Array.getElem?_eq_getElem hi, List.length_cons]
    rw [ih fun j hj => h j (List.mem_cons_of_mem _ hj)]
theorem cut_le (n : Nat) (lo hi : Option Int) : (Mine.cut n lo hi).2 ≤ n := by
  unfold Mine.cut
  cases hi with
  | none => simp
  | some i => simp only; split <;> omega
theorem strCut_whole (x : Str) (lo hi : Option Int) (h : (Builtin.Str.strSliceIndices lo hi 1 x.length).length = x.length) : cutL x.cps.toList lo hi = x.cps.toList := by
  have e := strIdx_cut x lo hi
  have hl : (cutL x.cps.toList lo hi).length = x.cps.toList.length := by
    rw [← e, filterMap_all x.cps]
    · rw [h]; simp [Str.length]
    · intro i hi'
      have b := bounds_cut lo hi x.cps.size
      have e2 : Builtin.Str.strSliceIndices lo hi 1 x.length = (List.range ((Mine.cut x.cps.size lo hi).2 - (Mine.cut x.cps.size lo hi).1)).map ((Mine.cut x.cps.size lo hi).1 + ·) := by
        rw [← sliceRange_one, ← b.1, ← b.2.1]; rfl
      rw [e2] at hi'
      obtain ⟨k, hk, rfl⟩ := List.mem_map.mp hi'
      have := List.mem_range.mp hk
      have := cut_le x.cps.size lo hi
      omega
  unfold cutL at hl ⊢
  simp only [List.length_drop, List.length_take] at hl
  have c2 := cut_le x.cps.toList.length lo hi
  have h1 : (Mine.cut x.cps.toList.length lo hi).1 = 0 ∨ x.cps.toList.length = 0 := by omega
  have h2 : (Mine.cut x.cps.toList.length lo hi).2 = x.cps.toList.length := by omega
  rcases h1 with h1 | h1
  · dsimp only
    rw [h1, h2, List.drop_zero, List.take_length]
  · have : x.cps.toList = [] := List.eq_nil_of_length_eq_zero h1
    rw [this]; simp
theorem slice_ok (I : Inv T s κ γ σ) {c : Cfg} {p : Pos} {x z : AV} {v : Value} {lo hi : Option Int} {sl : Addr} {vl vu : Value} (e : sliceA c p σ x lo hi = some (z, σ')) (rx : Rep T s.heap κ γ σ.nx x v)
    (hs : s.heap.get? sl = some { cls := .type "slice", data := .fields #[vl, vu, .none] }) (pl : IsPart vl lo) (pu : IsPart vu hi) :
    (∃ Ty id, s.TypeIs v Ty ∧ typeLookup (.type Ty) "__getitem__" = pure (some (.builtin id))) ∧ wpAny (model T.prog T.w) A (getItem v (.ref sl)) (EvP T s κ γ σ.nx z σ') NoE s := by
  unfold sliceA at e
  split at e
  · rename_i y
    split at e
    · rename_i hb
      simp at e; obtain ⟨rfl, rfl⟩ := e
      obtain ⟨t, rfl⟩ := rx
      refine ⟨⟨"str", _, typeIs_str _ _ _, F.slot_str_getitem.lookup⟩, ?_⟩
      have hl : ∃ l u, partValue l = vl ∧ partValue u = vu ∧ l.map (·.1) = lo ∧ u.map (·.1) = hi := by
        cases pl with
        | none => cases pu with
          | none => exact ⟨none, none, rfl, rfl, rfl, rfl⟩
          | int j t' => exact ⟨none, some (j, t'), rfl, rfl, rfl, rfl⟩
        | int i t => cases pu with
          | none => exact ⟨some (i, t), none, rfl, rfl, rfl, rfl⟩
          | int j t' => exact ⟨some (i, t), some (j, t'), rfl, rfl, rfl, rfl⟩
      obtain ⟨l, u, h1, h2, h3, h4⟩ := hl
      refine wpAny_getItem_str_slice (l := l) (u := u) (st := none) ⟨_, hs, rfl, by rw [h1, h2]; rfl⟩ rfl ?_
      unfold sliceMade slicePicked
      rw [h3, h4]
      simp only [Option.map_none, Option.getD_none]
      split
      · rename_i hw
        simp only [beq_self_eq_true, Bool.true_and, beq_iff_eq] at hw
        have ec := strCut_whole y lo hi hw
        show EvP T s κ γ σ.nx _ σ (.str y t) s
        refine EvP.here (x := .str _) I ⟨t, ?_⟩
        rw [ec]
      · rw [strIdx_cut]
        refine ⟨?_, EvP.str I⟩
        show (cutL y.cps.toList lo hi).toArray.size ≤ sizeLine
        have := cutL_length y.cps.toList lo hi
        simp only [List.size_toArray, sizeLine]
        have e2 : y.cps.toList.length = y.length := by simp [Str.length]
        omega
    · cases e
  · simp only [Option.map_eq_some_iff] at e
    obtain ⟨xs, hx, e⟩ := e
    obtain ⟨a, vs, ep, rfl, g, b, q⟩ := lst_rep I rx hx
    refine ⟨⟨"list", _, ⟨_, g, rfl⟩, slot_list_getitem.lookup⟩, ?_⟩
    refine wpAny_getItem_list_slice (lobj_list g) ⟨_, hs, rfl, rfl⟩ pl pu .none (by intro h; cases h) ?_ ?_
    · rw [slicePick_cut]
      have := mkL_post I c p (q.cut lo hi) (Nat.le_trans (cutL_length _ _ _) b) (ep := 0) (tk := s.toks)
      rw [e] at this
      exact this
    · have := q.length
      simp only [List.size_toArray, sizeLine]
      omega
theorem rev_ok (I : Inv T s κ γ σ) {c : Cfg} {p : Pos} {x : AV} {v : Value} {xs : List AV} {sl : Addr} {vk : Value} (e : lst? σ x = some xs) (rx : Rep T s.heap κ γ σ.nx x v)
    (hs : s.heap.get? sl = some { cls := .type "slice", data := .fields #[.none, .none, vk] }) (pk : IsPart vk (some (-1))) :
    (∃ Ty id, s.TypeIs v Ty ∧ typeLookup (.type Ty) "__getitem__" = pure (some (.builtin id))) ∧
      wpAny (model T.prog T.w) A (getItem v (.ref sl)) (EvP T s κ γ σ.nx (mkL c p xs.reverse σ).1 (mkL c p xs.reverse σ).2) NoE s := by
  obtain ⟨a, vs, ep, rfl, g, b, q⟩ := lst_rep I rx e
  refine ⟨⟨"list", _, ⟨_, g, rfl⟩, slot_list_getitem.lookup⟩, ?_⟩
  refine wpAny_getItem_list_slice (lobj_list g) ⟨_, hs, rfl, rfl⟩ .none .none pk (by intro h; injection h with h; omega) ?_ ?_
  · rw [PySem.W.krv_pick]
    exact mkL_post I c p q.reverse (by simpa using b) (ep := 0) (tk := s.toks)
  · have := q.length
    simp only [List.size_toArray, sizeLine]
    omega
end
end Mine
namespace Mine
open PySem
/-- what a call's surroundings allow -/
structure AOk (A : Around) (k : Nat) : Prop where
  handled : A.handled = none
  depth : A.depth + k < recursionLimit
  units : A.units + 100 * k + 300 < cLine
section
variable {T : Tp} {A : Around} {s : Shared} {κ : Addr → Col} {γ : Nat → Addr} {σ σ' : Sto} {n : Nat} {h : Heap}
mutual
theorem toPy_reads : ∀ (k : Nat) (x : AV) (v : Value) (d : PyData), Rep T h κ γ n x v → toPy k x = some d → ∃ as, PySem.Reads h v d as ∧ d.canLay0 = true ∧ d.depth ≤ k
  | k, .none, v, d, r, e => by
    cases k <;> simp [toPy] at e <;> subst e <;> rw [show v = .none from r] <;> exact ⟨_, .none, by simp [PyData.canLay0], by simp [PyData.depth]⟩
  | k, .bool b, v, d, r, e => by
    cases k <;> simp [toPy] at e <;> subst e <;> rw [show v = .bool b from r] <;> exact ⟨_, .bool _, by simp [PyData.canLay0], by simp [PyData.depth]⟩
  | k, .int i, v, d, r, e => by
    obtain ⟨t, rfl⟩ := r
    cases k <;> simp [toPy] at e <;> subst e <;> exact ⟨_, .int _ _, by simp [PyData.canLay0], by simp [PyData.depth]⟩
  | k, .str x, v, d, r, e => by
    obtain ⟨t, rfl⟩ := r
    cases k <;> simp [toPy] at e <;> obtain ⟨hs, rfl⟩ := e <;> exact ⟨_, .str _ _, by simp [PyData.canLay0, hs], by simp [PyData.depth]⟩
  | 0, .list xs, v, d, r, e => by simp [toPy] at e
  | 0, .tuple xs, v, d, r, e => by simp [toPy] at e
  | k + 1, .list xs, v, d, r, e => by
    obtain ⟨a, vs, ep, rfl, _, g, _, q⟩ := r
    simp only [toPy, Option.map_eq_some_iff] at e
    obtain ⟨ds, hd, rfl⟩ := e
    obtain ⟨as, r1, r2, r3⟩ := toPys_reads k xs vs ds q hd
    refine ⟨_, .list g rfl rfl (by simpa using r1), by simp [PyData.canLay0, r2], ?_⟩
    simp only [PyData.depth]
    omega
  | k + 1, .tuple xs, v, d, r, e => by
    obtain ⟨a, vs, ep, rfl, _, g, _, q⟩ := r
    simp only [toPy, Option.map_eq_some_iff] at e
    obtain ⟨ds, hd, rfl⟩ := e
    obtain ⟨as, r1, r2, r3⟩ := toPys_reads k xs vs ds q hd
    refine ⟨_, .tuple g rfl rfl (by simpa using r1), by simp [PyData.canLay0, r2], ?_⟩
    simp only [PyData.depth]
    omega
  | k, .dict _ _, v, d, r, e => by cases k <;> simp [toPy] at e
  | k, .range _ _, v, d, r, e => by cases k <;> simp [toPy] at e
  | k, .loc _, v, d, r, e => by cases k <;> simp [toPy] at e
  | k, .stream _, v, d, r, e => by cases k <;> simp [toPy] at e
  | k, .glob _, v, d, r, e => by cases k <;> simp [toPy] at e
  | k, .bi _, v, d, r, e => by cases k <;> simp [toPy] at e
  | k, .opq _, v, d, r, e => by cases k <;> simp [toPy] at e
theorem toPys_reads : ∀ (k : Nat) (xs : List AV) (vs : List Value) (ds : List PyData), RepL T h κ γ n xs vs → toPys k xs = some ds → ∃ as, PySem.ReadsAll h vs ds as ∧ PyData.canLayAll0 ds = true ∧ PyData.depthAll ds ≤ k
  | k, [], vs, ds, r, e => by
    rw [show vs = [] from r]
    simp [toPys] at e
    subst e
    exact ⟨_, .nil, by simp [PyData.canLayAll0], by simp [PyData.depthAll]⟩
  | k, x :: xs, vs, ds, r, e => by
    obtain ⟨v, us, rfl, r1, r2⟩ := r
    simp only [toPys, Option.bind_eq_some_iff, Option.map_eq_some_iff] at e
    obtain ⟨d, hd, ds', hds, rfl⟩ := e
    obtain ⟨as, a1, a2, a3⟩ := toPy_reads k x v d r1 hd
    obtain ⟨bs, b1, b2, b3⟩ := toPys_reads k xs us ds' r2 hds
    refine ⟨_, .cons a1 b1, by simp [PyData.canLayAll0, a2, b2], ?_⟩
    simp only [PyData.depthAll]
    omega
end
theorem shallow_reads (I : Inv T s κ γ σ) {x : AV} {v : Value} {d : PyData} (r : Rep T s.heap κ γ σ.nx x v) (e : toPy 8 (shallow σ x) = some d) : ∃ as, PySem.Reads s.heap v d as ∧ d.canLay0 = true ∧ d.depth ≤ 8 := by
  unfold shallow at e
  split at e
  · rename_i l
    split at e
    · rename_i xs hg
      obtain ⟨_, vs, ep, _, g, _, q⟩ := I.objs _ _ hg
      simp only [toPy, Option.map_eq_some_iff] at e
      obtain ⟨ds, hd, rfl⟩ := e
      obtain ⟨as, r1, r2, r3⟩ := toPys_reads 7 xs vs ds q hd
      refine ⟨γ l :: as, ?_, by simp [PyData.canLay0, r2], by simp only [PyData.depth]; omega⟩
      rw [show v = .ref (γ l) from r.1]
      exact .list g rfl rfl (by simpa using r1)
    · exact toPy_reads 8 _ v d r e
  · exact toPy_reads 8 _ v d r e
theorem shaped_of {d : PyData} (h1 : d.canLay0 = true) (h2 : d.depth ≤ 8) : SeqAt.shaped d = true := by
  unfold SeqAt.shaped
  rw [h1, Bool.true_and]
  exact decide_eq_true (by omega)
theorem eq_cmp {k : Nat} (hA : AOk A k) (I : Inv T s κ γ σ) {x y : AV} {v u : Value} {b : Bool} (e : eqA σ x y = some b) (rx : Rep T s.heap κ γ σ.nx x v) (ry : Rep T s.heap κ γ σ.nx y u)
    {Q : Value → Shared → Prop} (h : Q (.bool b) s) : wpAny (model T.prog T.w) A (compareOp .Eq v u) Q NoE s := by
  unfold eqA at e
  split at e
  · obtain ⟨t, rfl⟩ := rx; obtain ⟨t', rfl⟩ := ry
    simp at e; subst e
    exact PyProof.Rows.eq_str h
  · rw [show v = .bool _ from rx, show u = .bool _ from ry]
    simp at e; subst e
    refine SeqAt.compareEq_shaped (as := []) (bs := []) (.bool _) (.bool _) (shaped_of (by simp [PyData.canLay0]) (by simp [PyData.depth])) (shaped_of (by simp [PyData.canLay0]) (by simp [PyData.depth])) (by have := hA.units; omega) ?_
    simpa [PyData.eqv] using h
  · simp only [Option.bind_eq_some_iff, Option.map_eq_some_iff] at e
    obtain ⟨a, ha, c, hc, rfl⟩ := e
    obtain ⟨as, r1, r2, r3⟩ := shallow_reads I rx ha
    obtain ⟨bs, q1, q2, q3⟩ := shallow_reads I ry hc
    exact SeqAt.compareEq_shaped r1 q1 (shaped_of r2 r3) (shaped_of q2 q3) (by have := hA.units; omega) h
theorem ne_cmp {k : Nat} (hA : AOk A k) (I : Inv T s κ γ σ) {x y : AV} {v u : Value} {b : Bool} (e : eqA σ x y = some b) (rx : Rep T s.heap κ γ σ.nx x v) (ry : Rep T s.heap κ γ σ.nx y u)
    {Q : Value → Shared → Prop} (h : Q (.bool (!b)) s) : wpAny (model T.prog T.w) A (compareOp .NotEq v u) Q NoE s := by
  unfold eqA at e
  split at e
  · obtain ⟨t, rfl⟩ := rx; obtain ⟨t', rfl⟩ := ry
    simp at e; subst e
    exact PyProof.Rows.ne_str h
  · rw [show v = .bool _ from rx, show u = .bool _ from ry]
    simp at e; subst e
    refine SeqAt.compareNe_shaped (as := []) (bs := []) (.bool _) (.bool _) (shaped_of (by simp [PyData.canLay0]) (by simp [PyData.depth])) (shaped_of (by simp [PyData.canLay0]) (by simp [PyData.depth])) (by have := hA.units; omega) ?_
    simpa [PyData.eqv] using h
  · simp only [Option.bind_eq_some_iff, Option.map_eq_some_iff] at e
    obtain ⟨a, ha, c, hc, rfl⟩ := e
    obtain ⟨as, r1, r2, r3⟩ := shallow_reads I rx ha
    obtain ⟨bs, q1, q2, q3⟩ := shallow_reads I ry hc
    exact SeqAt.compareNe_shaped r1 q1 (shaped_of r2 r3) (shaped_of q2 q3) (by have := hA.units; omega) h
theorem mem_reads (I : Inv T s κ γ σ) {x y : AV} {v u : Value} {b : Bool} (e : memA σ x y = some b) (rx : Rep T s.heap κ γ σ.nx x v) (ry : Rep T s.heap κ γ σ.nx y u) :
    ∃ ds d as bs, PySem.Reads s.heap u (.list ds) as ∧ PySem.Reads s.heap v d bs ∧ PyData.canLayAll0 ds = true ∧ d.canLay0 = true ∧ d.depth ≤ 8 ∧ b = ds.any fun y => PyData.eqv y d := by
  unfold memA at e
  simp only [Option.bind_eq_some_iff, Option.map_eq_some_iff] at e
  obtain ⟨xs, hx, ds, hd, d, hv, rfl⟩ := e
  obtain ⟨a, vs, ep, rfl, g, _, q⟩ := lst_rep I ry hx
  obtain ⟨as, r1, r2, r3⟩ := toPys_reads 7 xs vs ds q hd
  obtain ⟨bs, q1, q2, q3⟩ := shallow_reads I rx hv
  exact ⟨ds, d, _, bs, .list g rfl rfl (by simpa using r1), q1, r2, q2, q3, rfl⟩
theorem subStr_one {x y : Str} {b : Bool} (e : subStr x y = some b) : (!(Builtin.Str.occurrences y x 0 y.length 1).isEmpty) = b := by
  obtain ⟨⟨l⟩⟩ := x
  unfold subStr at e
  dsimp only at e
  split at e
  · rename_i _ c
    simp only [Option.some.injEq] at e
    rw [StrLaws.found_one, ← e]
    simp
  · cases e
theorem cmp_ok {k : Nat} (hA : AOk A k) (I : Inv T s κ γ σ) {op : CmpOp} {x y : AV} {v u : Value} {b : Bool} (e : cmpA σ op x y = some b) (rx : Rep T s.heap κ γ σ.nx x v) (ry : Rep T s.heap κ γ σ.nx y u) :
    wpAny (model T.prog T.w) A (compareOp op v u) (EvP T s κ γ σ.nx (.bool b) σ) NoE s := by
  unfold cmpA at e
  have hu := hA.units
  split at e
  · exact eq_cmp hA I e rx ry (EvP.bool' I)
  · simp only [Option.map_eq_some_iff] at e
    obtain ⟨c, hc, rfl⟩ := e
    exact ne_cmp hA I hc rx ry (EvP.bool' I)
  · split at e
    · obtain ⟨t, rfl⟩ := rx; obtain ⟨t', rfl⟩ := ry
      simp at e; subst e
      exact P.lt_int (EvP.bool' I)
    · cases e
  · split at e
    · obtain ⟨t, rfl⟩ := rx; obtain ⟨t', rfl⟩ := ry
      simp at e; subst e
      exact P.gt_int (EvP.bool' I)
    · cases e
  · split at e
    · obtain ⟨t, rfl⟩ := rx; obtain ⟨t', rfl⟩ := ry
      simp at e; subst e
      exact P.ge_int (EvP.bool' I)
    · cases e
  · split at e
    · rw [show v = .none from rx, show u = .none from ry]
      simp at e; subst e
      exact is_none (EvP.bool' I)
    · obtain ⟨t, rfl⟩ := rx
      rw [show u = .none from ry]
      simp at e; subst e
      exact is_none (EvP.bool' I)
    · cases e
  · split at e
    · split at e
      · obtain ⟨t, rfl⟩ := rx; obtain ⟨t', rfl⟩ := ry
        exact P.in_str (by rw [subStr_one e]; exact EvP.bool' I)
      · cases e
    · obtain ⟨ds, d, as, bs, r1, r2, r3, r4, r5, rfl⟩ := mem_reads I e rx ry
      refine SeqAt.in_list_reads r1 r2 r3 r4 ?_ (EvP.bool' I)
      have := Nat.min_le_right (PyData.depthAll ds) d.depth
      omega
  · split at e
    · split at e
      · obtain ⟨t, rfl⟩ := rx; obtain ⟨t', rfl⟩ := ry
        simp only [Option.map_eq_some_iff] at e
        obtain ⟨c, hc, rfl⟩ := e
        exact P.notIn_str (by rw [subStr_one hc]; exact EvP.bool' I)
      · cases e
    · simp only [Option.map_eq_some_iff] at e
      obtain ⟨c, hc, rfl⟩ := e
      obtain ⟨ds, d, as, bs, r1, r2, r3, r4, r5, rfl⟩ := mem_reads I hc rx ry
      refine SeqAt.notIn_list_reads r1 r2 r3 r4 ?_ (EvP.bool' I)
      have := Nat.min_le_right (PyData.depthAll ds) d.depth
      omega
  · cases e
end
end Mine
namespace Mine
open PySem
section
variable {T : Tp} {A : Around} {s : Shared} {κ : Addr → Col} {γ : Nat → Addr} {σ σ' : Sto}
/-- a new list at some fresh place of a heap that keeps all -/
theorem mkL_keeps (I : Inv T s κ γ σ) (c : Cfg) (p : Pos) {xs : List AV} {vs : List Value} {h' : Heap} {a : Addr} {ep tk : Nat} (hk : ∀ b o, s.heap.get? b = some o → h'.get? b = some o) (ha : s.heap.get? a = none)
    (g : h'.get? a = some (lobj vs ep)) (r : RepL T s.heap κ γ σ.nx xs vs) (b : xs.length ≤ 2 ^ 24) :
    EvP T s κ γ σ.nx (mkL c p xs σ).1 (mkL c p xs σ).2 (.ref a) { s with heap := h', toks := tk } := by
  have hc : ∀ col b, (s.heap.get? b).isSome → upc κ a col b = κ b := fun col b e => upc_ne (by rintro rfl; rw [ha] at e; cases e)
  unfold mkL
  split
  · refine ⟨upc κ a (.ob σ.nx), upg γ σ.nx a, .new hk (hc _), ?_, ?_⟩
    · refine I.new hk (hc _) ⟨vs, ep, ?_, ?_, b, ?_⟩
      · rw [upg_self, upc_self]
      · rw [upg_self]; exact g
      · exact r.lasts (.new hk (hc _))
    · exact ⟨by rw [upg_self], Nat.lt_succ_self _⟩
  · exact ⟨upc κ a .fz, γ, .keeps hk (hc _), I.keeps hk (hc _), ⟨a, vs, ep, rfl, upc_self, g, b, r.lasts (.keeps hk (hc _))⟩⟩
theorem repL_of_items {h : Heap} {n : Nat} : ∀ (xs : List AV) (vs : List Value), vs.length = xs.length → (∀ (j : Nat) (x : AV) (v : Value), xs[j]? = some x → vs[j]? = some v → Rep T h κ γ n x v) → RepL T h κ γ n xs vs
  | [], vs, hl, _ => List.eq_nil_of_length_eq_zero hl
  | x :: xs, [], hl, _ => by simp at hl
  | x :: xs, v :: vs, hl, hq => ⟨v, vs, rfl, hq 0 x v rfl rfl, repL_of_items xs vs (by simpa using hl) fun j x v h1 h2 => hq (j + 1) x v (by simpa using h1) (by simpa using h2)⟩
theorem perm_sorted_eq : ∀ {l l' : List Int}, l.Perm l' → l.Pairwise (· ≤ ·) → l'.Pairwise (· ≤ ·) → l = l'
  | [], l', p, _, _ => (List.nil_perm.mp p).symm
  | x :: l, l', p, h1, h2 => by
    cases l' with
    | nil => exact absurd p.length_eq (by simp)
    | cons y l' =>
      have hx : x ∈ y :: l' := p.subset List.mem_cons_self
      have hy : y ∈ x :: l := p.symm.subset List.mem_cons_self
      have e : x = y := by
        rcases List.mem_cons.mp hx with e | hx
        · exact e
        · rcases List.mem_cons.mp hy with e | hy
          · exact e.symm
          · have a1 := (List.pairwise_cons.mp h1).1 y hy
            have a2 := (List.pairwise_cons.mp h2).1 x hx
            omega
      subst e
      rw [perm_sorted_eq (List.Perm.cons_inv p) (List.pairwise_cons.mp h1).2 (List.pairwise_cons.mp h2).2]
theorem insA_perm (i : Int) : ∀ l : List Int, (insA i l).Perm (i :: l)
  | [] => .refl _
  | j :: l => by
    unfold insA
    split
    · exact .refl _
    · exact ((insA_perm i l).cons j).trans (.swap _ _ _)
theorem sortA_perm : ∀ l : List Int, (sortA l).Perm l
  | [] => .refl _
  | i :: l => (insA_perm i (sortA l)).trans ((sortA_perm l).cons i)
theorem insA_sorted (i : Int) : ∀ l : List Int, l.Pairwise (· ≤ ·) → (insA i l).Pairwise (· ≤ ·)
  | [], _ => by simp [insA]
  | j :: l, h => by
    unfold insA
    have h' := List.pairwise_cons.mp h
    split
    · rename_i q
      refine List.pairwise_cons.mpr ⟨fun k hk => ?_, h⟩
      rcases List.mem_cons.mp hk with rfl | hk
      · exact q
      · have := h'.1 k hk; omega
    · rename_i q
      refine List.pairwise_cons.mpr ⟨fun k hk => ?_, insA_sorted i l h'.2⟩
      rcases List.mem_cons.mp ((insA_perm i l).subset hk) with rfl | hk
      · omega
      · exact h'.1 k hk
theorem sortA_sorted : ∀ l : List Int, (sortA l).Pairwise (· ≤ ·)
  | [] => .nil
  | i :: l => insA_sorted i _ (sortA_sorted l)
theorem repL_ints {h : Heap} {n : Nat} : ∀ {vs : List Value} {is : List Int}, PyProof.Rows.IntsAre vs is → RepL T h κ γ n (is.map .int) vs
  | _, _, .nil => rfl
  | _, _, .cons i t r => ⟨_, _, rfl, ⟨t, rfl⟩, repL_ints r⟩
theorem sumA_ints : ∀ {xs : List AV} {i : Int}, sumA xs = some i → ∃ is, intsA xs = some is ∧ is.sum = i
  | [], i, e => by simp [sumA] at e; exact ⟨[], rfl, by simpa using e⟩
  | .int j :: xs, i, e => by
    simp only [sumA, Option.map_eq_some_iff] at e
    obtain ⟨k, hk, rfl⟩ := e
    obtain ⟨is, h1, h2⟩ := sumA_ints hk
    exact ⟨j :: is, by simp [intsA, h1], by simp [h2]⟩
  | .none :: _, _, e | .bool _ :: _, _, e | .str _ :: _, _, e | .list _ :: _, _, e | .tuple _ :: _, _, e | .dict _ _ :: _, _, e
  | .range _ _ :: _, _, e | .loc _ :: _, _, e | .stream _ :: _, _, e | .glob _ :: _, _, e | .bi _ :: _, _, e | .opq _ :: _, _, e => by simp [sumA] at e
theorem range_items {a b : Int} {n : Nat} {acc : Array Value} (hn : (b - a).toNat = n) (h : ItemsOf (fun i v => ∃ t, v = .int (a + i * 1) t) acc n) {hp : Heap} {k : Nat} :
    RepL T hp κ γ k ((List.range (b - a).toNat).map fun (i : Nat) => AV.int (a + i)) acc.toList := by
  refine repL_of_items _ _ (by simp [h.1, hn]) fun j x v h1 h2 => ?_
  rw [List.getElem?_map] at h1
  obtain ⟨t, rfl⟩ := h.2 j v (by simpa using h2)
  simp only [Option.map_eq_some_iff] at h1
  obtain ⟨i, hi, rfl⟩ := h1
  have : i = j := by
    rw [List.getElem?_range (by have := (List.getElem?_eq_some_iff.mp hi).1; simpa using this)] at hi
    exact (Option.some.inj hi).symm
  subst this
  exact ⟨t, by simp⟩
theorem rangeSize_one (x y : Int) : Builtin.Range.rangeSize x y 1 = ((y - x).toNat : Nat) := by
  unfold Builtin.Range.rangeSize
  rw [if_pos (by decide)]
  split <;> simp <;> omega
theorem range_small {x y : Int} (h : 0 ≤ x ∧ x < 2 ^ 40 ∧ -(2 ^ 40) < y ∧ y < 2 ^ 40) : Builtin.Range.small x y 1 = true := by
  unfold Builtin.Range.small
  rw [rangeSize_one]
  simp only [Builtin.Range.rangeFitsLong, show ((1 : Int) > 0) = True from by simp, if_true, Bool.and_eq_true, Bool.or_eq_true, decide_eq_true_eq, beq_iff_eq]
  omega
theorem asciiDigit : ∀ c : Nat, c < 128 → Unicode.isDigit c = (decide (48 ≤ c) && decide (c ≤ 57)) := by decide +kernel
theorem digits_isdigit {x : Str} (h : x.cps.toList.all (· < 128) = true) : Txt.isdigit x = digits? x := by
  unfold Txt.isdigit digits?
  have h1 : decide (x.length > 0) = (x.length != 0) := by
    cases hl : x.length <;> simp
  rw [h1]
  congr 1
  rw [← Array.all_toList]
  have : ∀ l : List Nat, l.all (· < 128) = true → l.all Unicode.isDigit = l.all fun c => decide (48 ≤ c) && decide (c ≤ 57) := by
    intro l
    induction l with
    | nil => intro _; rfl
    | cons c l ih =>
      intro hl
      simp only [List.all_cons, Bool.and_eq_true, decide_eq_true_eq] at hl
      simp only [List.all_cons]
      rw [asciiDigit c hl.1, ih hl.2]
  exact this _ h
theorem biV_cases {n : Str} {v : Value} (e : biV n = some v) : (n = "len" ∧ v = .builtin "len") ∨ (n = "range" ∧ v = .type "range") ∨ (n = "list" ∧ v = .type "list") ∨ (n = "str" ∧ v = .type "str") ∨
    (n = "int" ∧ v = .type "int") ∨ (n = "sum" ∧ v = .builtin "sum") ∨ (n = "divmod" ∧ v = .builtin "divmod") ∨ (n = "sorted" ∧ v = .builtin "sorted") ∨ (n = "zip" ∧ v = .type "zip") ∨ (n = "iter" ∧ v = .builtin "iter") := by
  unfold biV at e
  repeat' split at e
  all_goals first
    | (simp only [Option.some.injEq] at e; subst e; simp_all; done)
    | cases e
theorem callB_len (I : Inv T s κ γ σ) {c : Cfg} {p : Pos} {args : List AV} {vs : List Value} {z : AV} (e : callB c p "len" args σ = some (z, σ')) (r : RepL T s.heap κ γ σ.nx args vs) :
    wpAny (model T.prog T.w) A (call (.builtin "len") vs) (EvP T s κ γ σ.nx z σ') NoE s := by
  unfold callB at e
  rw [if_pos rfl] at e
  split at e
  · obtain ⟨v, us, rfl, ⟨t, rfl⟩, hus⟩ := r
    rw [show us = [] from hus]
    split at e
    · rename_i hb
      simp at e; obtain ⟨rfl, rfl⟩ := e
      exact P.len_str (by omega) (EvP.int I)
    · cases e
  · obtain ⟨v, us, rfl, rv, hus⟩ := r
    rw [show us = [] from hus]
    simp only [Option.map_eq_some_iff] at e
    obtain ⟨xs, hx, e⟩ := e
    simp at e; obtain ⟨rfl, rfl⟩ := e
    obtain ⟨a, vs, ep, rfl, g, b, q⟩ := lst_rep I rv hx
    have hl := q.length
    refine Calls.call_len_list (lobj_list g) (by simp; omega) ?_
    simp only [List.size_toArray, hl]
    exact EvP.int I
  · cases e
theorem callB_range (I : Inv T s κ γ σ) {c : Cfg} {p : Pos} {args : List AV} {vs : List Value} {z : AV} (e : callB c p "range" args σ = some (z, σ')) (r : RepL T s.heap κ γ σ.nx args vs) :
    wpAny (model T.prog T.w) A (call (.type "range") vs) (EvP T s κ γ σ.nx z σ') NoE s := by
  unfold callB at e
  rw [if_neg (by decide), if_pos rfl] at e
  split at e
  · obtain ⟨v, us, rfl, ⟨t, rfl⟩, hus⟩ := r
    rw [show us = [] from hus]
    split at e
    · rename_i hb
      simp at e; obtain ⟨rfl, rfl⟩ := e
      refine call_range_1 ⟨_, _, .push _ .fz, I.push _ _, ⟨_, _, _, _, rfl, upc_self, by omega, IsRange.new _ _ _ _ _ _ _⟩⟩
    · cases e
  · obtain ⟨v, us, rfl, ⟨t, rfl⟩, v2, us2, rfl, ⟨t2, rfl⟩, hus⟩ := r
    rw [show us2 = [] from hus]
    split at e
    · rename_i hb
      simp at e; obtain ⟨rfl, rfl⟩ := e
      refine call_range_2 ⟨_, _, .push _ .fz, I.push _ _, ⟨_, _, _, _, rfl, upc_self, hb, IsRange.new _ _ _ _ _ _ _⟩⟩
    · cases e
  · cases e
theorem callB_list {k : Nat} (hA : AOk A k) (I : Inv T s κ γ σ) {c : Cfg} {p : Pos} {args : List AV} {vs : List Value} {z : AV} (e : callB c p "list" args σ = some (z, σ')) (r : RepL T s.heap κ γ σ.nx args vs) :
    wpAny (model T.prog T.w) A (call (.type "list") vs) (EvP T s κ γ σ.nx z σ') NoE s := by
  unfold callB at e
  rw [if_neg (by decide), if_neg (by decide), if_pos rfl] at e
  split at e
  · rename_i x y
    obtain ⟨v, us, rfl, ⟨a, t, u, q, rfl, hc, hbd, hr⟩, hus⟩ := r
    rw [show us = [] from hus]
    split at e
    · rename_i hb
      have hn := rangeSize_one x y
      refine call_list_range hA.handled hr ?_ hn (by omega) fun h' tk acc' c' hk hg hacc => ?_
      · exact range_small hbd
      · have := mkL_keeps I c p (vs := acc'.toList) (ep := c') (tk := tk) hk (get?_size _) (by simpa [lobj] using hg) (range_items (T := T) rfl hacc) (by simp; omega)
        simp only [Option.some.injEq] at e
        rw [e] at this
        exact this
    · cases e
  · rename_i x
    obtain ⟨v, us, rfl, ⟨t, rfl⟩, hus⟩ := r
    rw [show us = [] from hus]
    split at e
    · rename_i hb
      have hx : x.cps.size ≤ 2 ^ 20 := hb
      refine call_list_str (hn := by simp only [sizeLine]; omega) hA.handled x t fun h' tk acc' c' hk hg hacc => ?_
      have := mkL_keeps I c p (vs := acc'.toList) (xs := x.cps.toList.map fun c => .str ⟨#[c]⟩) (ep := c') (tk := tk) hk (get?_size _) (by simpa [lobj] using hg) (repL_of_items _ _ (by simp [hacc.1]) fun j z v h1 h2 => ?_) (by simp; omega)
      · simp only [Option.some.injEq] at e
        rw [e] at this
        exact this
      · obtain ⟨ch, u, hc, rfl⟩ := hacc.2 j v (by simpa using h2)
        rw [List.getElem?_map] at h1
        have e2 : x.cps.toList[j]? = some ch := by simpa using hc
        rw [e2] at h1
        simp at h1
        subst h1
        exact ⟨u, rfl⟩
    · cases e
  · cases e
theorem callB_str (I : Inv T s κ γ σ) {c : Cfg} {p : Pos} {args : List AV} {vs : List Value} {z : AV} (e : callB c p "str" args σ = some (z, σ')) (r : RepL T s.heap κ γ σ.nx args vs) :
    wpAny (model T.prog T.w) A (call (.type "str") vs) (EvP T s κ γ σ.nx z σ') NoE s := by
  unfold callB at e
  rw [if_neg (by decide), if_neg (by decide), if_neg (by decide), if_pos rfl] at e
  split at e
  · rename_i i
    obtain ⟨v, us, rfl, ⟨t, rfl⟩, hus⟩ := r
    rw [show us = [] from hus]
    split at e
    · rename_i hb
      simp at e; obtain ⟨rfl, rfl⟩ := e
      refine P.str_of_int ?_ (EvP.str I)
      by_cases h0 : i.natAbs = 0
      · rw [h0]; decide
      · have : i.natAbs.log2 < 64 := (Nat.log2_lt h0).mpr (by omega)
        omega
    · cases e
  · cases e
theorem callB_int (I : Inv T s κ γ σ) {c : Cfg} {p : Pos} {args : List AV} {vs : List Value} {z : AV} (e : callB c p "int" args σ = some (z, σ')) (r : RepL T s.heap κ γ σ.nx args vs) :
    wpAny (model T.prog T.w) A (call (.type "int") vs) (EvP T s κ γ σ.nx z σ') NoE s := by
  unfold callB at e
  rw [if_neg (by decide), if_neg (by decide), if_neg (by decide), if_neg (by decide), if_pos rfl] at e
  split at e
  · rename_i x
    obtain ⟨v, us, rfl, ⟨t, rfl⟩, hus⟩ := r
    rw [show us = [] from hus]
    split at e
    · rename_i hb
      simp at e; obtain ⟨rfl, rfl⟩ := e
      obtain ⟨h1, h2⟩ := hb
      unfold digits? at h1
      simp only [Bool.and_eq_true, bne_iff_ne, ne_eq, List.all_eq_true, decide_eq_true_eq] at h1
      refine PySem.W.KIN.call_text (n := intOf x) ?_ (by omega) (EvP.int I)
      refine intText_digits (fun c hc => h1.2 c hc) (fun hn => h1.1 ?_) (by omega)
      unfold Str.length
      rw [← Array.length_toList, hn]; rfl
    · cases e
  · cases e
theorem callB_sum {k : Nat} (hA : AOk A k) (I : Inv T s κ γ σ) {c : Cfg} {p : Pos} {args : List AV} {vs : List Value} {z : AV} (e : callB c p "sum" args σ = some (z, σ')) (r : RepL T s.heap κ γ σ.nx args vs) :
    wpAny (model T.prog T.w) A (call (.builtin "sum") vs) (EvP T s κ γ σ.nx z σ') NoE s := by
  unfold callB at e
  rw [if_neg (by decide), if_neg (by decide), if_neg (by decide), if_neg (by decide), if_neg (by decide), if_pos rfl] at e
  split at e
  · obtain ⟨v, us, rfl, rv, hus⟩ := r
    rw [show us = [] from hus]
    simp only [Option.map_eq_some_iff, Option.bind_eq_some_iff] at e
    obtain ⟨i, ⟨xs, hx, hi⟩, e⟩ := e
    simp at e; obtain ⟨rfl, rfl⟩ := e
    obtain ⟨a, vs, ep, rfl, g, b, q⟩ := lst_rep I rv hx
    obtain ⟨is, h1, rfl⟩ := sumA_ints hi
    have hI := q.ints h1
    obtain ⟨ys, hy⟩ := hI.allInts.items
    have hl : s.heap.IsList a (intItems ys) := by rw [← hy]; exact lobj_list g
    have hs : preSum (numAt ys) ys.size = is.sum := by
      rw [preSum_eq, List.take_of_length_le (by simp), ← nums_intItems, ← hy]
      rw [show vs.toArray.toList = vs from rfl, hI.numsOf]
    refine sum_intListG hA.handled hl fun h' tk t' hk => ?_
    rw [hs]
    exact ⟨κ, γ, .keeps hk fun _ _ => rfl, I.keeps hk fun _ _ => rfl, ⟨t', rfl⟩⟩
  · cases e
theorem callB_divmod (I : Inv T s κ γ σ) {c : Cfg} {p : Pos} {args : List AV} {vs : List Value} {z : AV} (e : callB c p "divmod" args σ = some (z, σ')) (r : RepL T s.heap κ γ σ.nx args vs) :
    wpAny (model T.prog T.w) A (call (.builtin "divmod") vs) (EvP T s κ γ σ.nx z σ') NoE s := by
  unfold callB at e
  rw [if_neg (by decide), if_neg (by decide), if_neg (by decide), if_neg (by decide), if_neg (by decide), if_neg (by decide), if_pos rfl] at e
  split at e
  · obtain ⟨v, us, rfl, ⟨t, rfl⟩, v2, us2, rfl, ⟨t2, rfl⟩, hus⟩ := r
    rw [show us2 = [] from hus]
    split at e
    · rename_i hb
      simp at e; obtain ⟨rfl, rfl⟩ := e
      refine PyProof.Rows.divmod_int (by omega) ?_ (.inl (PyProof.noPylong_small (by omega)))
      refine ⟨_, _, .push _ .fz, I.push _ _, ?_⟩
      exact Rep.newTuple (vs := [_, _]) (ep := 0) ⟨_, _, rfl, ⟨_, rfl⟩, _, _, rfl, ⟨_, rfl⟩, rfl⟩ (by simp)
    · cases e
  · cases e
theorem callB_sorted (I : Inv T s κ γ σ) {c : Cfg} {p : Pos} {args : List AV} {vs : List Value} {z : AV} (e : callB c p "sorted" args σ = some (z, σ')) (r : RepL T s.heap κ γ σ.nx args vs) :
    wpAny (model T.prog T.w) A (call (.builtin "sorted") vs) (EvP T s κ γ σ.nx z σ') NoE s := by
  unfold callB at e
  rw [if_neg (by decide), if_neg (by decide), if_neg (by decide), if_neg (by decide), if_neg (by decide), if_neg (by decide), if_neg (by decide), if_pos rfl] at e
  split at e
  · obtain ⟨v, us, rfl, rv, hus⟩ := r
    rw [show us = [] from hus]
    simp only [Option.bind_eq_bind, Option.bind_eq_some_iff] at e
    obtain ⟨xs, hx, is, hi, e⟩ := e
    split at e
    · rename_i h64
      obtain ⟨a, vs, ep, rfl, g, b, q⟩ := lst_rep I rv hx
      have hI := q.ints hi
      refine PyProof.Rows.sorted_ints (lobj_list g) hI (by rw [hI.length]; exact h64) fun out ns' a1 a2 a3 => ?_
      have en : ns' = sortA is := perm_sorted_eq (a2.trans (sortA_perm is).symm) a3 (sortA_sorted is)
      subst en
      obtain ⟨ep', hg⟩ := PyProof.Rows.sortedAll_at s.heap vs out
      have hfr : s.heap.get? (s.heap.objs.size + 1) = none := Heap.get?_none_of_le (Nat.le_succ _)
      have := mkL_keeps I c p (vs := out.toList) (ep := ep') (tk := s.toks) (fun _ _ => PyProof.Rows.sortedAll_old) hfr hg (repL_ints (T := T) a1) (by simp [(sortA_perm is).length_eq]; omega)
      simp only [Option.some.injEq] at e
      rw [e] at this
      exact this
    · cases e
  · cases e
theorem callB_ok {k : Nat} (hA : AOk A k) (I : Inv T s κ γ σ) {c : Cfg} {p : Pos} {n : Str} {f : Value} {args : List AV} {vs : List Value} {z : AV} (hf : biV n = some f) (e : callB c p n args σ = some (z, σ')) (r : RepL T s.heap κ γ σ.nx args vs) :
    wpAny (model T.prog T.w) A (call f vs) (EvP T s κ γ σ.nx z σ') NoE s := by
  rcases biV_cases hf with ⟨rfl, rfl⟩ | ⟨rfl, rfl⟩ | ⟨rfl, rfl⟩ | ⟨rfl, rfl⟩ | ⟨rfl, rfl⟩ | ⟨rfl, rfl⟩ | ⟨rfl, rfl⟩ | ⟨rfl, rfl⟩ | ⟨rfl, rfl⟩ | ⟨rfl, rfl⟩
  · exact callB_len I e r
  · exact callB_range I e r
  · exact callB_list hA I e r
  · exact callB_str I e r
  · exact callB_int I e r
  · exact callB_sum hA I e r
  · exact callB_divmod I e r
  · exact callB_sorted I e r
  all_goals
    unfold callB at e
    rw [if_neg (by decide), if_neg (by decide), if_neg (by decide), if_neg (by decide), if_neg (by decide), if_neg (by decide), if_neg (by decide), if_neg (by decide)] at e
    cases e
end
end Mine
namespace Mine
open PySem
section
variable {T : Tp} {A : Around} {s : Shared} {κ : Addr → Col} {γ : Nat → Addr} {σ σ' : Sto}
theorem joinA_strs {h : Heap} {n : Nat} : ∀ {xs : List AV} {vs : List Value} {r : List Nat}, joinA xs = some r → RepL T h κ γ n xs vs → ∃ l : List (Str × Tok), vs = strValues l ∧ (l.map (·.1.cps.toList)).flatten = r
  | [], vs, r, e, q => by
    simp [joinA] at e
    subst e
    exact ⟨[], q, rfl⟩
  | .str x :: xs, vs, r, e, q => by
    obtain ⟨v, us, rfl, ⟨t, rfl⟩, q⟩ := q
    simp only [joinA, Option.map_eq_some_iff] at e
    obtain ⟨r', hr, rfl⟩ := e
    obtain ⟨l, h1, h2⟩ := joinA_strs hr q
    exact ⟨(x, t) :: l, by rw [h1]; rfl, by simp [h2]⟩
  | .none :: _, _, _, e, _ | .bool _ :: _, _, _, e, _ | .int _ :: _, _, _, e, _ | .list _ :: _, _, _, e, _ | .tuple _ :: _, _, _, e, _ | .dict _ _ :: _, _, _, e, _
  | .range _ _ :: _, _, _, e, _ | .loc _ :: _, _, _, e, _ | .stream _ :: _, _, _, e, _ | .glob _ :: _, _, _, e, _ | .bi _ :: _, _, _, e, _ | .opq _ :: _, _, _, e, _ => by simp [joinA] at e
theorem join_flat : ∀ (ts : List Str), (Str.join ⟨#[]⟩ ts).cps.toList = (ts.map (·.cps.toList)).flatten
  | [] => rfl
  | [x] => by simp [Str.join]
  | x :: y :: r => by
    have ih := join_flat (y :: r)
    show ((x ++ ⟨#[]⟩ ++ Str.join ⟨#[]⟩ (y :: r) : Str)).cps.toList = _
    have e : ∀ a b : Str, (a ++ b).cps.toList = a.cps.toList ++ b.cps.toList := fun a b => by
      show (a.cps ++ b.cps).toList = _
      simp
    rw [e, e, ih]
    simp
theorem flat_length : ∀ (ts : List Str), ((ts.map (·.cps.toList)).flatten).length = (ts.map (·.length)).sum
  | [] => rfl
  | x :: r => by simp [flat_length r, Str.length]
theorem strsMapped {h : Heap} {n : Nat} : ∀ (l : List (Str × Tok)), RepL T h κ γ n ((l.map (·.1)).map .str) (strValues l)
  | [] => rfl
  | (x, t) :: l => ⟨_, _, rfl, ⟨t, rfl⟩, strsMapped l⟩
theorem count_list (c : Nat) : ∀ l : List Nat, PyProof.Rows.cnt c l = ((l.count c : Nat) : Int)
  | [] => rfl
  | n :: l => by
    rw [PyProof.Rows.cnt_cons, count_list c l, List.count_cons]
    by_cases h : n = c
    · subst h; simp; omega
    · simp [h]
theorem split_ok (I : Inv T s κ γ σ) (c : Cfg) (p : Pos) {x y : Str} {t u : Tok} (hy : y.length ≠ 0) (hx : x.length ≤ 2 ^ 20) (hl : (Txt.split x y).length ≤ 2 ^ 20) :
    wpAny (model T.prog T.w) A (call (.builtin "str.split") [.str x t, .str y u]) (EvP T s κ γ σ.nx (mkL c p ((Txt.split x y).map .str) σ).1 (mkL c p ((Txt.split x y).map .str) σ).2) NoE s := by
  have hy' : (y.length == 0) = false := by simpa using hy
  have fin : ∀ (l : List (Str × Tok)) (tk : Nat), l.map (·.1) = Txt.split x y → EvP T s κ γ σ.nx (mkL c p ((Txt.split x y).map .str) σ).1 (mkL c p ((Txt.split x y).map .str) σ).2 (.ref s.heap.objs.size)
      { s with heap := s.heap.push (lobj (strValues l) 0), toks := tk } := fun l tk e => by
    rw [← e]
    exact mkL_post I c p (strsMapped l) (by rw [e]; simp; omega)
  cases h1 : (decide (x.length < y.length) || decide (Builtin.Str.strKind x < Builtin.Str.strKind y))
  · cases hf : (Builtin.Str.occurrences x y 0 x.length (x.length + 1)).isEmpty
    · have e : Txt.split x y = Builtin.Str.partsBetween x (Builtin.Str.occurrences x y 0 x.length (x.length + 1)) y.length := by
        unfold Txt.split
        rw [h1, hf]; rfl
      refine call_meets F.slot_str_split (typeIs_str _ _ _) F.entry_str_split (F.args_str_split_2 _ _) (meets_str_split_sep x y t u h1 hy' hf (by simp only [sizeLine]; omega) (by rw [← e]; simp only [sizeLine]; omega)) ?_
      show EvP T s κ γ σ.nx _ _ (.ref s.heap.objs.size) { s with toks := _, heap := s.heap.push { cls := .type "list", data := .seq (strsFrom s.toks (Builtin.Str.partsBetween x (Builtin.Str.occurrences x y 0 x.length (x.length + 1)) y.length)).toArray } }
      rw [strsFrom_eq]
      exact fin (numbered s.toks _) _ ((numbered_texts _ _).trans e.symm)
    · refine call_meets F.slot_str_split (typeIs_str _ _ _) F.entry_str_split (F.args_str_split_2 _ _) (meets_str_split_not_found x y t u h1 hy' hf) ?_
      exact fin [(x, t)] s.toks (by unfold Txt.split; rw [h1, hf]; rfl)
  · refine call_meets F.slot_str_split (typeIs_str _ _ _) F.entry_str_split (F.args_str_split_2 _ _) (meets_str_split_cannot_occur x y t u h1) ?_
    exact fin [(x, t)] s.toks (by unfold Txt.split; rw [h1]; rfl)
/-- the callee of a method -/
def mthV (T : Tp) : Mth → Option Value
  | .join _ => some (.builtin "str.join")
  | .split _ => some (.builtin "str.split")
  | .count _ => some (.builtin "str.count")
  | .isdigit _ => some (.builtin "str.isdigit")
  | .get _ => some (.builtin "dict.get")
  | .append _ => some (.builtin "list.append")
  | .pop _ => some (.builtin "list.pop")
  | .lex _ n => T.fnV n
/-- the value that a method is of -/
def mthOf : Mth → AV
  | .join s | .split s | .count s | .isdigit s => .str s
  | .get v => v
  | .append l | .pop l | .lex l _ => .loc l
theorem resM_of {v : AV} {n : Str} {mt : Mth} (e : resM σ v n = some mt) : mthOf mt = v := by
  unfold resM at e
  split at e
  · repeat' split at e
    all_goals first
      | (simp only [Option.some.injEq] at e; subst e; rfl)
      | cases e
  · split at e
    · simp only [Option.some.injEq] at e; subst e; rfl
    · cases e
  · split at e
    all_goals first
      | (repeat' split at e
         all_goals first
           | (simp only [Option.some.injEq] at e; subst e; rfl)
           | cases e)
      | cases e
  · cases e
theorem dct_rep (I : Inv T s κ γ σ) {x : AV} {v : Value} {ks : Keys} {xs : List AV} (hb : T.h₀.get? sysModules ≠ none) (r : Rep T s.heap κ γ σ.nx x v) (e : dct? σ x = some (ks, xs)) :
    ∃ a us, v = .ref a ∧ (a == sysModules) = false ∧ DRep T s.heap a ks us ∧ RepL T s.heap κ γ σ.nx xs us := by
  cases x with
  | dict ks' ys =>
    simp [dct?] at e
    obtain ⟨rfl, rfl⟩ := e
    obtain ⟨a, us, h1, _, h2, h3, h4⟩ := r
    exact ⟨a, us, h1, h2, h3, h4⟩
  | loc l =>
    simp only [dct?] at e
    split at e
    · rename_i ys hy
      simp at e
      obtain ⟨rfl, rfl⟩ := e
      obtain ⟨_, us, hc, h2, h3⟩ := I.objs _ _ hy
      refine ⟨_, us, r.1, ?_, h2, h3⟩
      have hne : γ l ≠ sysModules := by
        intro q
        cases g : T.h₀.get? sysModules with
        | none => exact hb g
        | some o =>
          have := (I.base _ _ g).2
          rw [← q, hc] at this
          cases this
      simpa using hne
    · cases e
  | _ => simp [dct?] at e
theorem DRep.typeIs {a : Addr} {ks : Keys} {us : List Value} (D : DRep T s.heap a ks us) : s.TypeIs (.ref a) "dict" := by
  cases ks with
  | ki l => exact D.2.typeIs
  | ks l => exact D.2.typeIs
theorem DRep.noDict {a : Addr} {ks : Keys} {us : List Value} (D : DRep T s.heap a ks us) : ∃ o, s.heap.get? a = Option.some o ∧ o.dict = none := by
  cases ks with
  | ki l => obtain ⟨_, o, _, _, ho, hc, _⟩ := D; exact ⟨o, ho, hc.2.1⟩
  | ks l => obtain ⟨_, o, _, _, ho, hc, _⟩ := D; exact ⟨o, ho, hc.2.1⟩
theorem getMethod_dict {a : Addr} {ks : Keys} {us : List Value} (D : DRep T s.heap a ks us) {pl : Sem Bool} {Q : Value × List Value → Shared → Prop} (h : Q (.builtin "dict.get", [.ref a]) s) :
    wpAny (model T.prog T.w) A (getMethod (.ref a) "get" pl) Q NoE s :=
  getMethod_builtin D.typeIs F.plainAttrs_dict F.slot_dict_get F.type_dict_get (fun b e => by injection e with e; subst e; exact D.noDict) h
/-- the method of a value that is no lexer -/
theorem resM_ok (I : Inv T s κ γ σ) (hb : T.h₀.get? sysModules ≠ none) {x : AV} {v : Value} {n : Str} {mt : Mth} (e : resM σ x n = some mt) (r : Rep T s.heap κ γ σ.nx x v) {pl : Sem Bool} {Q : Value × List Value → Shared → Prop}
    (hlex : ∀ l ln lf push, σ.get l = some (.lexer ln lf push) → v = .ref (γ l) → (n = "get_token" ∨ n = "push_token" ∨ n = "_read_char") → mt = .lex l n → wpAny (model T.prog T.w) A (getMethod v n pl) Q NoE s)
    (h : ∀ f, mthV T mt = some f → Q (f, [v]) s) : wpAny (model T.prog T.w) A (getMethod v n pl) Q NoE s := by
  unfold resM at e
  split at e
  · obtain ⟨t, rfl⟩ := r
    split at e
    · rename_i hn
      subst hn
      simp only [Option.some.injEq] at e; subst e
      have hq := h (.builtin "str.join") rfl; with_reducible exact GM.join hq
    · split at e
      · rename_i hn
        subst hn
        simp only [Option.some.injEq] at e; subst e
        have hq := h (.builtin "str.split") rfl; with_reducible exact GM.split hq
      · split at e
        · rename_i hn
          subst hn
          simp only [Option.some.injEq] at e; subst e
          have hq := h (.builtin "str.count") rfl; with_reducible exact GM.count hq
        · split at e
          · rename_i hn
            subst hn
            simp only [Option.some.injEq] at e; subst e
            have hq := h (.builtin "str.isdigit") rfl; with_reducible exact GM.isdigit hq
          · cases e
  · split at e
    · rename_i hn
      subst hn
      simp only [Option.some.injEq] at e; subst e
      obtain ⟨a, us, rfl, _, _, D, _⟩ := r
      exact getMethod_dict D (h _ rfl)
    · cases e
  · obtain ⟨rfl, hl⟩ := r
    split at e
    · rename_i hg
      split at e
      · rename_i hn
        subst hn
        simp only [Option.some.injEq] at e; subst e
        obtain ⟨_, vs, ep, _, g, _⟩ := I.objs _ _ hg
        exact Calls.getMethod_list_append g rfl rfl (h _ rfl)
      · split at e
        · rename_i hn
          subst hn
          simp only [Option.some.injEq] at e; subst e
          obtain ⟨_, vs, ep, _, g, _⟩ := I.objs _ _ hg
          exact PyProof.Rows.getMethod_list_of F.slot_list_pop F.type_list_pop (lobj_list g) ⟨_, g, rfl⟩ (h _ rfl)
        · cases e
    · rename_i hg
      split at e
      · rename_i hn
        subst hn
        simp only [Option.some.injEq] at e; subst e
        obtain ⟨_, us, _, D, _⟩ := I.objs _ _ hg
        exact getMethod_dict D (h _ rfl)
      · cases e
    · rename_i hg
      split at e
      · rename_i hn
        simp only [Option.some.injEq] at e
        exact hlex _ _ _ _ hg rfl hn e.symm
      · cases e
    · cases e
  · cases e
theorem append_ok (I : Inv T s κ γ σ) {l : Nat} {xs : List AV} {w : AV} {u : Value} (g : σ.get l = some (.list xs)) (hl : xs.length < 2 ^ 20) (rw' : Rep T s.heap κ γ σ.nx w u) :
    wpAny (model T.prog T.w) A (call (.builtin "list.append") [.ref (γ l), u]) (EvP T s κ γ σ.nx .none (σ.upd l (.list (xs ++ [w])))) NoE s := by
  obtain ⟨hn, vs, ep, hc, hg, hb, q⟩ := I.objs _ _ g
  have hq := q.length
  refine call_meets F.slot_list_append ⟨_, hg, rfl⟩ F.entry_list_append (F.args_list_append_2 _ _) (list_append (γ l) vs.toArray ep u (by simp only [List.size_toArray, sizeLine]; omega)) ⟨hg, ?_⟩
  have hk : ∀ a o, κ a ≠ .ob l → s.heap.get? a = some o → (s.heap.update (γ l) (Obj.mapSeq fun x => x.push u)).get? a = some o := fun a o hne e =>
    (Heap.get?_update_other _ _ (by rintro rfl; exact hne hc)).trans e
  have hself := Heap.get?_update_self (Obj.mapSeq fun x => x.push u) hg rfl
  refine ⟨κ, γ, .upd hk fun a e => ?_, I.upd hn hk ⟨vs ++ [u], ep + 1, hc, ?_, by simp; omega, ?_⟩, rfl⟩
  · by_cases ha : a = γ l
    · subst ha; rw [hself]; rfl
    · obtain ⟨o, ho⟩ := Option.isSome_iff_exists.mp e
      show ((s.heap.update _ _).get? a).isSome
      rw [Heap.get?_update_other _ _ (fun q => ha q.symm), ho]; rfl
  · rw [hself]
    simp [lobj, Obj.mapSeq]
  · exact (q.lasts (.upd hk)).append (.one (rw'.lasts (.upd hk)))
theorem pop0 {l : Addr} {v : Value} {vs : List Value} {ep : Nat} {t : Tok} {Q : Value → Shared → Prop} (g : s.heap.get? l = some (lobj (v :: vs) ep)) (hb : vs.length < 2 ^ 24)
    (h : ∀ h' ep', Heap.SameBut l s.heap h' → h'.get? l = some (lobj vs ep') → Q v { s with heap := h' }) : wpAny (model T.prog T.w) A (call (.builtin "list.pop") [.ref l, .int 0 t]) Q NoE s := by
  refine call_meets F.slot_list_pop ⟨_, g, rfl⟩ F.entry_list_pop (F.args_list_pop_2 _ _) (MeetsSeq.list_pop_at l (v :: vs).toArray ep 0 t 0 v (by decide) (by simp [seqIndex?]) rfl (by simp only [List.size_toArray, List.length_cons, sizeLine]; omega)) ⟨g, ?_⟩
  obtain ⟨ep', hh⟩ : ∃ ep', (s.heap.update l (Obj.mapSeq fun xs => xs.eraseIdxIfInBounds 0)).get? l = some (lobj vs ep') := by
    rw [Heap.get?_update_self _ g rfl]
    simp [lobj, Obj.mapSeq]
  exact h _ ep' (Heap.SameBut.update ..) hh
/-- a located list is rewritten -/
theorem upd_list (I : Inv T s κ γ σ) {l : Nat} {xs ys : List AV} {us : List Value} {ep' : Nat} {h' : Heap} {tk : Nat} (hg : σ.get l = some (.list xs)) (hs : Heap.SameBut (γ l) s.heap h') (hl : h'.get? (γ l) = some (lobj us ep'))
    (hb : ys.length ≤ 2 ^ 24) (r : RepL T s.heap κ γ σ.nx ys us) :
    Step Pe s κ γ σ.nx { s with heap := h', toks := tk } κ γ σ.nx ∧ Inv T { s with heap := h', toks := tk } κ γ (σ.upd l (.list ys)) := by
  obtain ⟨hn, vs, ep, hc, g, b, q⟩ := I.objs _ _ hg
  have hk : ∀ a o, κ a ≠ .ob l → s.heap.get? a = some o → h'.get? a = some o := fun a o hne e => (hs.2 a (by rintro rfl; exact hne hc)).trans e
  refine ⟨.upd hk fun a e => ?_, I.upd hn hk ⟨us, ep', hc, hl, hb, r.lasts (.upd hk)⟩⟩
  by_cases ha : a = γ l
  · subst ha; rw [hl]; rfl
  · rw [hs.2 a ha]; exact e
theorem pop_ok (I : Inv T s κ γ σ) {l : Nat} {x : AV} {xs : List AV} {t : Tok} (g : σ.get l = some (.list (x :: xs))) :
    wpAny (model T.prog T.w) A (call (.builtin "list.pop") [.ref (γ l), .int 0 t]) (EvP T s κ γ σ.nx x (σ.upd l (.list xs))) NoE s := by
  obtain ⟨hn, vs, ep, hc, hg, hb, q⟩ := I.objs _ _ g
  obtain ⟨v, us, rfl, r1, r2⟩ := q
  have hl := r2.length
  simp only [List.length_cons] at hb
  refine pop0 hg (by omega) fun h' ep' hs hh => ?_
  obtain ⟨S, I'⟩ := upd_list (tk := s.toks) I g hs hh (by omega) r2
  exact ⟨κ, γ, S, I', r1.step S⟩
theorem getDef_ok (I : Inv T s κ γ σ) (hb : T.h₀.get? sysModules ≠ none) {x k d : AV} {v vk vd : Value} {ks : Keys} {xs : List AV} {r : Option AV} (e : dct? σ x = some (ks, xs)) (hr : findKey k ks xs = some r)
    (rx : Rep T s.heap κ γ σ.nx x v) (rk : Rep T s.heap κ γ σ.nx k vk) (rd : Rep T s.heap κ γ σ.nx d vd) :
    wpAny (model T.prog T.w) A (call (.builtin "dict.get") [v, vk, vd]) (EvP T s κ γ σ.nx (r.getD d) σ) NoE s := by
  obtain ⟨a, us, rfl, hs, D, L⟩ := dct_rep I hb rx e
  obtain ⟨o, ho, hm⟩ := findKey_rep D L rk hr
  have fin : Rep T s.heap κ γ σ.nx (r.getD d) (o.getD vd) := by
    cases r with
    | none => rw [show o = none from ho]; exact rd
    | some x => obtain ⟨w, rfl, rw'⟩ := ho; exact rw'
  rcases hm with ⟨i, f, h1, h2, h3⟩ | ⟨i, f, h1, h2, h3⟩
  · refine call_meetsIn F.slot_dict_get h2.typeIs F.entry_dict_get (F.args_dict_get_3 _ _ _) (meets_dict_get_default _ a h1 hs vd) ⟨f, h2, ?_⟩
    rw [h3]
    exact EvP.toks I fin
  · refine call_meetsIn F.slot_dict_get h2.typeIs F.entry_dict_get (F.args_dict_get_3 _ _ _) (meets_dict_get_default _ a h1 hs vd) ⟨f, h2, ?_⟩
    rw [h3]
    exact EvP.toks I fin
/-- a method's call, where it is no lexer's -/
theorem runM_ok (I : Inv T s κ γ σ) (hb : T.h₀.get? sysModules ≠ none) {c : Cfg} {p : Pos} {Φ : Fns} {mt : Mth} {args : List AV} {v f : Value} {vs : List Value} {z : AV} (e : runM c p Φ mt args σ = some (z, σ'))
    (hf : mthV T mt = some f) (rv : Rep T s.heap κ γ σ.nx (mthOf mt) v) (r : RepL T s.heap κ γ σ.nx args vs)
    (hlex : ∀ l n, mt = .lex l n → Φ n (.loc l :: args) σ = some (z, σ') → wpAny (model T.prog T.w) A (call f (v :: vs)) (EvP T s κ γ σ.nx z σ') NoE s) :
    wpAny (model T.prog T.w) A (call f (v :: vs)) (EvP T s κ γ σ.nx z σ') NoE s := by
  unfold runM at e
  split at e
  · rename_i sep w0
    obtain ⟨u, us, rfl, ru, hus⟩ := r
    rw [show us = [] from hus]
    obtain ⟨t, rfl⟩ := rv
    injection hf with hf; subst hf
    simp only [Option.bind_eq_some_iff] at e
    obtain ⟨xs, hx, q, hq, e⟩ := e
    split at e
    · rename_i hz
      simp at e; obtain ⟨rfl, rfl⟩ := e
      obtain ⟨a, vs, ep, rfl, g, b, L⟩ := lst_rep I ru hx
      obtain ⟨l, rfl, hl⟩ := joinA_strs hq L
      have hsep : sep = ⟨#[]⟩ := by
        obtain ⟨⟨c⟩⟩ := sep
        have : c = [] := by simpa [Str.length] using hz.1
        subst this; rfl
      subst hsep
      have hfl := flat_length (l.map (·.1))
      have e1 : ((l.map (·.1)).map (·.cps.toList)).flatten = q := by rw [← hl]; simp [List.map_map]; rfl
      rw [e1] at hfl
      refine SC.join (texts := l.map (·.1)) (lobj_list g) rfl ?_ fun t' k => ?_
      · unfold JoinOk
        rw [StrLaws.joinTotal]
        simp only [Builtin.Str.tooLong, sizeLine]
        have : (⟨#[]⟩ : Str).length = 0 := rfl
        rw [this, Nat.mul_zero, Nat.add_zero, Bool.not_eq_true']
        exact decide_eq_false (by omega)
      · have ej : Txt.join ⟨#[]⟩ (l.map (·.1)) = ⟨q.toArray⟩ := by
          unfold Txt.join
          rw [StrLaws.glued_eq_join]
          have := join_flat (l.map (·.1))
          rw [e1] at this
          generalize Str.join ⟨#[]⟩ (l.map (·.1)) = w at this
          obtain ⟨⟨c⟩⟩ := w
          simp only at this
          rw [this]
        rw [ej]
        exact EvP.str I
    · cases e
  · obtain ⟨u, us, rfl, ⟨t', rfl⟩, hus⟩ := r
    rw [show us = [] from hus]
    obtain ⟨t, rfl⟩ := rv
    injection hf with hf; subst hf
    split at e
    · rename_i hz
      simp only [Option.some.injEq] at e
      have := split_ok (A := A) I c p (t := t) (u := t') hz.1 hz.2.1 hz.2.2
      rw [e] at this
      exact this
    · cases e
  · obtain ⟨u, us, rfl, ⟨t', rfl⟩, hus⟩ := r
    rw [show us = [] from hus]
    obtain ⟨t, rfl⟩ := rv
    injection hf with hf; subst hf
    split at e
    · rename_i hz
      subst hz
      simp only [Option.some.injEq, Prod.mk.injEq] at e; obtain ⟨rfl, rfl⟩ := e
      refine SC.count ?_
      rw [PyProof.Rows.count_cnt, count_list]
      exact EvP.int I
    · cases e
  · rw [show vs = [] from r]
    obtain ⟨t, rfl⟩ := rv
    injection hf with hf; subst hf
    split at e
    · rename_i hz
      simp at e; obtain ⟨rfl, rfl⟩ := e
      refine SC.isdigit ?_
      rw [digits_isdigit hz]
      exact EvP.bool' I
    · cases e
  · obtain ⟨vk, us, rfl, rk, vd, us2, rfl, rd, hus⟩ := r
    rw [show us2 = [] from hus]
    injection hf with hf; subst hf
    simp only [Option.bind_eq_some_iff, Option.map_eq_some_iff] at e
    obtain ⟨⟨ks, xs⟩, hx, q, hq, e⟩ := e
    simp at e; obtain ⟨rfl, rfl⟩ := e
    exact getDef_ok I hb hx hq rv rk rd
  · obtain ⟨u, us, rfl, ru, hus⟩ := r
    rw [show us = [] from hus]
    injection hf with hf; subst hf
    obtain ⟨rfl, hl⟩ := rv
    split at e
    · rename_i hg
      split at e
      · rename_i hz
        simp at e; obtain ⟨rfl, rfl⟩ := e
        exact append_ok I hg hz ru
      · cases e
    · cases e
  · obtain ⟨u, us, rfl, ⟨t, rfl⟩, hus⟩ := r
    rw [show us = [] from hus]
    injection hf with hf; subst hf
    obtain ⟨rfl, hl⟩ := rv
    split at e
    · rename_i hg
      split at e
      · rename_i hz
        subst hz
        simp only [Option.some.injEq, Prod.mk.injEq] at e; obtain ⟨rfl, rfl⟩ := e
        exact pop_ok I hg
      · cases e
    · cases e
  · exact hlex _ _ rfl e
  · cases e
end
end Mine
namespace Mine
open PySem
def kcls : Option NameKind → Nat
  | none => 0
  | some .local => 1
  | some .cell => 2
  | some .free => 2
  | some .globalImplicit => 3
  | some .globalExplicit => 4
/-- a frame bears what the abstract one says -/
structure FrOk (T : Tp) (env : Env) (sc : Scope) (m : Fm) (h : Heap) (κ : Addr → Col) (γ : Nat → Addr) (n : Nat) : Prop where
  kind : env.scope.kind = .function
  glo : env.globals = mainGlobals
  bui : env.builtins = builtinsNs
  cls : ∀ x, kcls (env.scope.names.lookup x) = kcls (sc.names.lookup x)
  col : κ env.locals = .fr env.locals
  ns : ∃ mL, h.Ns env.locals mL ∧ ∀ x v, m x = some v → sc.names.lookup x = some .local → ∃ u, mL x = some u ∧ Rep T h κ γ n v u
  cel : ∀ x v, m x = some v → kcls (sc.names.lookup x) = 2 → ∃ a u L, env.cells.lookup x = some a ∧ h.IsCell a (some u) ∧ κ a = .fr L ∧ Rep T h κ γ n v u
  own : ∀ x, sc.names.lookup x = some .cell → ∃ a u, env.cells.lookup x = some a ∧ h.IsCell a u ∧ κ a = .fr env.locals
  inj : ∀ x y a, env.cells.lookup x = some a → env.cells.lookup y = some a → x = y
  ownk : ∀ x, sc.names.lookup x = some .cell → env.scope.names.lookup x = some .cell
  fre : ∀ x, sc.names.lookup x = some .free → ∃ a u L, env.cells.lookup x = some a ∧ h.IsCell a u ∧ κ a = .fr L
/-- what holds of the top -/
structure TopOk (T : Tp) (c : Cfg) : Prop where
  sys : T.h₀.get? sysModules ≠ none
  nolimit : T.h₀.NoLimit
  ns : ∃ mg mb, T.h₀.Ns mainGlobals mg ∧ T.h₀.Ns builtinsNs mb ∧ ∀ x v, c.glob x = some v → ∃ u, (mg x = some u ∨ (mg x = none ∧ mb x = some u)) ∧ ∀ s κ γ σ, Inv T s κ γ σ → Rep T s.heap κ γ σ.nx v u
  meth : ∀ {A : Around} {s : Shared} {κ : Addr → Col} {γ : Nat → Addr} {σ : Sto} {l : Nat} {ln : Int} {lf : Nat} {push : List AV} {n : Str} {pl : Sem Bool} {Q : Value × List Value → Shared → Prop}, Inv T s κ γ σ →
    σ.get l = some (.lexer ln lf push) → (n = "get_token" ∨ n = "push_token" ∨ n = "_read_char") → (∀ f, T.fnV n = some f → Q (f, [.ref (γ l)]) s) → wpAny (model T.prog T.w) A (getMethod (.ref (γ l)) n pl) Q NoE s
  attr : ∀ {A : Around} {s : Shared} {κ : Addr → Col} {γ : Nat → Addr} {σ : Sto} {l : Nat} {n : Str} {x : AV} {Q : Value → Shared → Prop}, Inv T s κ γ σ →
    attrA σ (.loc l) n = some x → (∀ u tk, Rep T s.heap κ γ σ.nx x u → Q u { s with toks := tk }) → wpAny (model T.prog T.w) A (getAttr (.ref (γ l)) n true) Q NoE s
  cw : ∀ {A : Around} {s : Shared} {f : Str} {u : Value} {pos : Pos} {first : List Value} {args : List (Bool × Sem Value)} {Q : Value → Shared → Prop}, T.fnV f = some u →
    wpAny (model T.prog T.w) A (evalArgs u true args []) (fun a s₁ => (∃ κ γ σ, Inv T s₁ κ γ σ) ∧ wpAny (model T.prog T.w) A (call u (first ++ a.pos) a.kw) Q NoE s₁) NoE s → args.any (·.1) = false →
    wpAny (model T.prog T.w) A (callWith pos u first args []) Q NoE s
section
variable {T : Tp} {c : Cfg} {A : Around} {env : Env} {sc : Scope} {m : Fm} {s s' : Shared} {κ κ' : Addr → Col} {γ γ' : Nat → Addr} {σ σ' : Sto} {n n' : Nat}
theorem FrOk.keeps {h h' : Heap} (F : FrOk T env sc m h κ γ n) (L : Lasts h κ γ n h' κ' γ' n') (hk : ∀ a o L, h.get? a = some o → κ a = .fr L → h'.get? a = some o ∧ κ' a = .fr L) : FrOk T env sc m h' κ' γ' n' where
  kind := F.kind
  glo := F.glo
  bui := F.bui
  cls := F.cls
  col := by
    obtain ⟨mL, ⟨o, _, _, ho, _⟩, _⟩ := F.ns
    exact (hk _ _ _ ho F.col).2
  ns := by
    obtain ⟨mL, N, q⟩ := F.ns
    obtain ⟨o, es, ep, ho, r⟩ := N
    exact ⟨mL, ⟨o, es, ep, (hk _ _ _ ho F.col).1, r⟩, fun x v e k => let ⟨u, h1, h2⟩ := q x v e k; ⟨u, h1, h2.lasts L⟩⟩
  cel x v e k := by
    obtain ⟨a, u, L', h1, ⟨o, ho, hd⟩, h3, h4⟩ := F.cel x v e k
    exact ⟨a, u, L', h1, ⟨o, (hk _ _ _ ho h3).1, hd⟩, (hk _ _ _ ho h3).2, h4.lasts L⟩
  own x k := by
    obtain ⟨a, u, h1, ⟨o, ho, hd⟩, h3⟩ := F.own x k
    exact ⟨a, u, h1, ⟨o, (hk _ _ _ ho h3).1, hd⟩, (hk _ _ _ ho h3).2⟩
  inj := F.inj
  ownk := F.ownk
  fre x k := by
    obtain ⟨a, u, L, h1, ⟨o, ho, hd⟩, h3⟩ := F.fre x k
    exact ⟨a, u, L, h1, ⟨o, (hk _ _ _ ho h3).1, hd⟩, (hk _ _ _ ho h3).2⟩
theorem FrOk.step (F : FrOk T env sc m s.heap κ γ n) (h : Step Pe s κ γ n s' κ' γ' n') : FrOk T env sc m s'.heap κ' γ' n' :=
  F.keeps (h.lasts fun _ => pe_fz) fun a o L e q => ⟨h.keep a o e (by rw [q]; exact pe_fr), by rw [h.col a (by rw [e]; rfl) (by rw [q]; rfl), q]⟩
theorem Inv.ns (I : Inv T s κ γ σ) {a : Addr} {mg : Str → Option Value} (N : T.h₀.Ns a mg) : s.heap.Ns a mg := N.keeps fun b o e => (I.base b o e).1
theorem kcls1 {k : Option NameKind} (h : kcls k = 1) : k = some .local := by
  rcases k with _ | k
  · cases h
  · cases k <;> first | rfl | cases h
theorem kcls2 {k : Option NameKind} (h : kcls k = 2) : k = some .cell ∨ k = some .free := by
  rcases k with _ | k
  · cases h
  · cases k <;> first | exact .inl rfl | exact .inr rfl | cases h
theorem kcls3 {k : Option NameKind} (h : kcls k = 3) : k = some .globalImplicit := by
  rcases k with _ | k
  · cases h
  · cases k <;> first | rfl | cases h
/-- a name read -/
theorem look_ok (O : TopOk T c) (I : Inv T s κ γ σ) (F : FrOk T env sc m s.heap κ γ σ.nx) {x : Str} {v : AV} (e : look c sc m x = some v) {Q : Value → Shared → Prop}
    (h : ∀ u, Rep T s.heap κ γ σ.nx v u → Q u s) : (x == ("__debug__" : Str)) = false ∧ wpAny (model T.prog T.w) A (loadName env x) Q NoE s := by
  unfold look at e
  split at e
  · cases e
  · rename_i hd
    simp only [not_or] at hd
    refine ⟨by simpa using hd.1, ?_⟩
    split at e
    · rename_i hk
      have hl := kcls1 (k := env.scope.names.lookup x) (by rw [F.cls, hk]; rfl)
      obtain ⟨mL, N, q⟩ := F.ns
      obtain ⟨u, h1, h2⟩ := q x v e hk
      exact wpAny_loadName_local F.kind hl N h1 (h u h2)
    · rename_i hk
      obtain ⟨a, u, L, h1, h2, _, h4⟩ := F.cel x v e (by rw [hk]; rfl)
      rcases kcls2 (k := env.scope.names.lookup x) (by rw [F.cls, hk]; rfl) with hl | hl
      · exact wpAny_loadName_cell F.kind hl h1 h2 (h u h4)
      · exact wpAny_loadName_free F.kind hl h1 h2 (h u h4) (by simpa using hd.2)
    · rename_i hk
      obtain ⟨a, u, L, h1, h2, _, h4⟩ := F.cel x v e (by rw [hk]; rfl)
      rcases kcls2 (k := env.scope.names.lookup x) (by rw [F.cls, hk]; rfl) with hl | hl
      · exact wpAny_loadName_cell F.kind hl h1 h2 (h u h4)
      · exact wpAny_loadName_free F.kind hl h1 h2 (h u h4) (by simpa using hd.2)
    · rename_i hk
      have hl := kcls3 (k := env.scope.names.lookup x) (by rw [F.cls, hk]; rfl)
      obtain ⟨mg, mb, N1, N2, q⟩ := O.ns
      obtain ⟨u, h1, h2⟩ := q x v e
      have N1' := I.ns N1
      have N2' := I.ns N2
      rw [← F.glo] at N1'
      rw [← F.bui] at N2'
      have load : wpAny (model T.prog T.w) A (loadGlobal env x) Q NoE s := by
        rcases h1 with h1 | ⟨h1, h3⟩
        · exact Calls.loadGlobal_global N1' h1 (h u (h2 s κ γ σ I))
        · exact Calls.loadGlobal_builtin N1' h1 N2' h3 (h u (h2 s κ γ σ I))
      unfold loadName
      have hl' : env.kindOf x = some .globalImplicit := hl
      simp only [Env.blockKind, F.kind, hl', ScopeKind.isAnnotationScope, Bool.false_and, Bool.false_eq_true, if_false]
      exact load
    · cases e
/-- a store into the own frame -/
theorem Step.own {W : Addr → Prop} {L : Addr} {h' : Heap} {tk : Nat} {b : Addr} (hs : Heap.SameBut b s.heap h') (hb : κ b = .fr L) (hw : W b) (ha : (h'.get? b).isSome) : Step (Ps W) s κ γ n { s with heap := h', toks := tk } κ γ n :=
  ⟨fun a o e q => (hs.2 a (by rintro rfl; exact q (.inr ⟨hw, by rw [hb]; intro c; cases c⟩))).trans e, fun a e => by
    by_cases q : a = b
    · subst q; exact ha
    · show (h'.get? a).isSome; rw [hs.2 a q]; exact e, fun _ _ _ => rfl, fun _ _ => rfl, Nat.le_refl _, rfl, rfl⟩
theorem Lasts.own {L : Addr} {h h' : Heap} {b : Addr} (hs : Heap.SameBut b h h') (hb : κ b = .fr L) : Lasts h κ γ n h' κ γ n :=
  ⟨fun a o e q => ⟨(hs.2 a (by rintro rfl; rw [hb] at q; cases q)).trans e, q⟩, fun _ _ => rfl, Nat.le_refl _⟩
theorem Inv.own (I : Inv T s κ γ σ) {L : Addr} {h' : Heap} {tk : Nat} {b : Addr} (hs : Heap.SameBut b s.heap h') (hb : κ b = .fr L) : Inv T { s with heap := h', toks := tk } κ γ σ where
  base a o e := by
    have z := I.base a o e
    exact ⟨(hs.2 a (by rintro rfl; rw [hb] at z; cases z.2)).trans z.1, z.2⟩
  objs l o e := by
    have z := I.objs l o e
    exact ⟨z.1, z.2.lasts (.own hs hb) z.1 fun a o q g => ⟨(hs.2 a (by rintro rfl; rw [hb] at q; cases q)).trans g, q⟩⟩
/-- the frame's own -/
def Owns (env : Env) (sc : Scope) (a : Addr) : Prop := a = env.locals ∨ ∃ x, sc.names.lookup x = some .cell ∧ env.cells.lookup x = some a
/-- a name may be bound: it is the frame's own -/
def mayBind (sc : Scope) (x : Str) : Prop := sc.names.lookup x = some .local ∨ sc.names.lookup x = some .cell
theorem bind_ok (I : Inv T s κ γ σ) (F : FrOk T env sc m s.heap κ γ σ.nx) {x : Str} {v : AV} {u : Value} (hx : mayBind sc x) (r : Rep T s.heap κ γ σ.nx v u) {Q : Unit → Shared → Prop}
    (h : ∀ s', Step (Ps (Owns env sc)) s κ γ σ.nx s' κ γ σ.nx → Inv T s' κ γ σ → FrOk T env sc (m.set x v) s'.heap κ γ σ.nx → Q () s') :
    wpAny (model T.prog T.w) A (storeName env x u) Q NoE s := by
  obtain ⟨mL, N, q⟩ := F.ns
  rcases hx with hk | hk
  · have hl : env.kindOf x = some .local := kcls1 (by show kcls (env.scope.names.lookup x) = 1; rw [F.cls, hk]; rfl)
    refine wpAny_storeName_local hl N (fun h' N' hs => ?_) (by rw [F.kind]; rfl)
    have hL := Lasts.own (γ := γ) (n := σ.nx) hs F.col
    have ha : (h'.get? env.locals).isSome := by obtain ⟨o, _, _, ho, _⟩ := N'; rw [ho]; rfl
    have hne : ∀ {a u}, s.heap.IsCell a u → a ≠ env.locals := by
      rintro a u ⟨o, ho, hd⟩ rfl
      obtain ⟨o', es, ep, ho', hd', _⟩ := N
      rw [ho] at ho'; injection ho' with ho'; subst ho'
      rw [hd] at hd'; cases hd'
    refine h _ (.own hs F.col (.inl rfl) ha) (I.own hs F.col) ⟨F.kind, F.glo, F.bui, F.cls, F.col, ⟨_, N', fun y w e k => ?_⟩, fun y w e k => ?_, fun y k => ?_, F.inj, F.ownk, fun y k => ?_⟩
    · unfold Fm.set at e
      by_cases hy : y = x
      · subst hy
        simp only [if_true] at e ⊢
        injection e with e
        subst e
        exact ⟨u, rfl, r.lasts hL⟩
      · simp only [if_neg hy] at e ⊢
        obtain ⟨u', h1, h2⟩ := q y w e k
        exact ⟨u', h1, h2.lasts hL⟩
    · unfold Fm.set at e
      by_cases hy : y = x
      · subst hy
        rw [hk] at k; cases k
      · simp only [if_neg hy] at e
        obtain ⟨a, u', L, h1, h2, h3, h4⟩ := F.cel y w e k
        exact ⟨a, u', L, h1, h2.sameBut hs (hne h2), h3, h4.lasts hL⟩
    · obtain ⟨a, u', h1, h2, h3⟩ := F.own y k
      exact ⟨a, u', h1, h2.sameBut hs (hne h2), h3⟩
    · obtain ⟨a, u', L, h1, h2, h3⟩ := F.fre y k
      exact ⟨a, u', L, h1, h2.sameBut hs (hne h2), h3⟩
  · obtain ⟨a, u₀, h1, h2, h3⟩ := F.own x hk
    refine wpAny_storeName_cell F.kind (F.ownk x hk) h1 h2 fun h' C' hs => ?_
    have hL := Lasts.own (γ := γ) (n := σ.nx) hs h3
    have ha : (h'.get? a).isSome := by obtain ⟨o, ho, _⟩ := C'; rw [ho]; rfl
    have hne : env.locals ≠ a := by
      rintro rfl
      obtain ⟨o, ho, hd⟩ := h2
      obtain ⟨o', es, ep, ho', hd', _⟩ := N
      rw [ho] at ho'; injection ho' with ho'; subst ho'
      rw [hd] at hd'; cases hd'
    refine h { s with heap := h' } (.own hs h3 (.inr ⟨x, hk, h1⟩) ha) (I.own hs h3) ⟨F.kind, F.glo, F.bui, F.cls, F.col, ⟨mL, N.sameBut hs hne, fun y w e k => ?_⟩, fun y w e k => ?_, fun y k => ?_, F.inj, F.ownk, fun y k => ?_⟩
    · unfold Fm.set at e
      by_cases hy : y = x
      · subst hy
        rw [hk] at k; cases k
      · simp only [if_neg hy] at e
        obtain ⟨u', h1, h2⟩ := q y w e k
        exact ⟨u', h1, h2.lasts hL⟩
    · unfold Fm.set at e
      by_cases hy : y = x
      · subst hy
        simp only [if_true] at e
        injection e with e
        subst e
        exact ⟨a, u, _, h1, C', h3, r.lasts hL⟩
      · simp only [if_neg hy] at e
        obtain ⟨b, u', L, g1, g2, g3, g4⟩ := F.cel y w e k
        exact ⟨b, u', L, g1, g2.sameBut hs (by rintro rfl; exact hy (F.inj _ _ _ g1 h1)), g3, g4.lasts hL⟩
    · by_cases hy : y = x
      · subst hy
        exact ⟨a, _, h1, C', h3⟩
      · obtain ⟨b, u', g1, g2, g3⟩ := F.own y k
        exact ⟨b, u', g1, g2.sameBut hs (by rintro rfl; exact hy (F.inj _ _ _ g1 h1)), g3⟩
    · have hy : y ≠ x := by rintro rfl; rw [hk] at k; cases k
      obtain ⟨b, u', L, g1, g2, g3⟩ := F.fre y k
      exact ⟨b, u', L, g1, g2.sameBut hs (by rintro rfl; exact hy (F.inj _ _ _ g1 h1)), g3⟩
end
end Mine
namespace Mine
open PySem
/-- the functions do what they are said to do -/
def FnsOk (T : Tp) (Φ : Fns) (k : Nat) : Prop := ∀ (f : Str) (args : List AV) (z : AV) (σ σ' : Sto) (A : Around) (s : Shared) (κ : Addr → Col) (γ : Nat → Addr) (u : Value) (vs : List Value),
  Φ f args σ = some (z, σ') → AOk A k → Inv T s κ γ σ → T.fnV f = some u → RepL T s.heap κ γ σ.nx args vs → wpAny (model T.prog T.w) A (call u vs) (EvP T s κ γ σ.nx z σ') NoE s
section
variable (T : Tp) (c : Cfg) (Φ : Fns) (k : Nat)
def EvOk (e : Expr) : Prop := ∀ (A : Around) (env : Env) (sc : Scope) (m : Fm) (s : Shared) (κ : Addr → Col) (γ : Nat → Addr) (σ : Sto) (v : AV) (σ' : Sto),
  AOk A k → Inv T s κ γ σ → FrOk T env sc m s.heap κ γ σ.nx → ev c Φ e sc m σ = some (v, σ') → wpAny (model T.prog T.w) A (eval e env) (EvP T s κ γ σ.nx v σ') NoE s
def EvsOk (es : List Expr) : Prop := ∀ (A : Around) (env : Env) (sc : Scope) (m : Fm) (s : Shared) (κ : Addr → Col) (γ : Nat → Addr) (σ : Sto) (vs : List AV) (σ' : Sto) (p : Pos),
  AOk A k → Inv T s κ γ σ → FrOk T env sc m s.heap κ γ σ.nx → evs c Φ es sc m σ = some (vs, σ') → wpAny (model T.prog T.w) A (spliced (backTo p (starEach es env))) (EvsP T s κ γ σ.nx vs σ') NoE s
def TrOk (e : Expr) : Prop := ∀ (A : Around) (env : Env) (sc : Scope) (m : Fm) (s : Shared) (κ : Addr → Col) (γ : Nat → Addr) (σ : Sto) (b : Bool) (σ' : Sto),
  AOk A k → Inv T s κ γ σ → FrOk T env sc m s.heap κ γ σ.nx → tr c Φ e (ev c Φ e sc) sc m σ = some (b, σ') → wpAny (model T.prog T.w) A (isTrue e env (eval e env)) (TrP T s κ γ σ.nx b σ') NoE s
end
section
variable {T : Tp} {c : Cfg} {Φ : Fns} {k : Nat} {A : Around} {env : Env} {sc : Scope} {m : Fm} {s : Shared} {κ : Addr → Col} {γ : Nat → Addr} {σ σ' : Sto}
/-- what is no starred part, no set and no cut -/
theorem star_plain {e : Expr} {r : AV × Sto} (h : ev c Φ e sc m σ = some r) (rest : List Expr) (env : Env) : starEach (e :: rest) env = (false, eval e env) :: starEach rest env := by
  cases e with
  | Starred v p => simp [ev] at h
  | _ => rfl
theorem marks_plain {e : Expr} {r : AV × Sto} (h : ev c Φ e sc m σ = some r) (op : CmpOp) : behindInMarks op e = false := by
  cases e with
  | Set a b p => simp [ev] at h
  | _ => rfl
theorem folded_plain {e : Expr} {r : AV × Sto} (h : ev c Φ e sc m σ = some r) (env : Env) (x : Value) : foldedSetIterable e env x = pure x := by
  cases e with
  | Set a b p => simp [ev] at h
  | _ => rfl
theorem sub_plain {e : Expr} {r : AV × Sto} (h : ev c Φ e sc m σ = some r) (o i : Value) : subscripted e false o i = operate [o, i] (getItem o i) := by
  cases e with
  | Slice a b d p => simp [ev] at h
  | _ => rfl
theorem base_plain {e : Expr} (h : okBase e = true) (n : Str) (env : Env) (w : Sem Value) : attributeBase e n env w = w := by
  unfold attributeBase
  split
  · rename_i id p1 p2
    simp [okBase] at h
  · rfl
theorem const_ok {x : Const} {j : Nat} {p : Pos} : EvOk T c Φ k (.Constant x j p) := by
  intro A env sc m s κ γ σ v σ' hA I F e
  cases x <;> simp [ev] at e <;> obtain ⟨rfl, rfl⟩ := e
  · exact wpAny_Constant_none (EvP.none' I)
  · exact wpAny_Constant_bool (EvP.bool' I)
  · exact wpAny_Constant_int (EvP.int I)
  · exact wpAny_Constant_str (EvP.str I)
theorem name_ok (O : TopOk T c) {x : Str} {p : Pos} : EvOk T c Φ k (.Name x p) := by
  intro A env sc m s κ γ σ v σ' hA I F e
  simp only [ev, Option.map_eq_some_iff] at e
  obtain ⟨w, hw, e⟩ := e
  simp only [Prod.mk.injEq] at e
  obtain ⟨rfl, rfl⟩ := e
  have z := look_ok (A := A) O I F hw (Q := EvP T s κ γ σ.nx w σ) fun u r => EvP.here I r
  exact wpAny_Name z.2 z.1
theorem bin_node {l r : Expr} {op : Operator} {p : Pos} (hl : EvOk T c Φ k l) (hr : EvOk T c Φ k r) : EvOk T c Φ k (.BinOp l op r p) := by
  intro A env sc m s κ γ σ v σ' hA I F e
  simp only [ev, Option.bind_eq_some_iff] at e
  obtain ⟨⟨x, σ1⟩, h1, ⟨y, σ2⟩, h2, e⟩ := e
  refine wpAny_BinOp (wpAny_mono (hl A env sc m s κ γ σ x σ1 hA I F h1) (fun a s₁ q => ?_) fun _ _ z => z)
  obtain ⟨κ1, γ1, S1, I1, R1⟩ := q
  refine wpAny_mono (hr A env sc m s₁ κ1 γ1 σ1 y σ2 hA I1 (F.step S1) h2) (fun b s₂ q => ?_) fun _ _ z => z
  obtain ⟨κ2, γ2, S2, I2, R2⟩ := q
  exact wpAny_mono (bin_ok I2 e (R1.step S2) R2) (fun _ _ z => EvP.then (S1.te S2) z) fun _ _ z => z
theorem usub_node {x : Expr} {p : Pos} (hx : EvOk T c Φ k x) : EvOk T c Φ k (.UnaryOp .USub x p) := by
  intro A env sc m s κ γ σ v σ' hA I F e
  simp only [ev, Option.bind_eq_some_iff] at e
  obtain ⟨⟨y, σ1⟩, h1, e⟩ := e
  refine wpAny_UnaryOp (wpAny_mono (hx A env sc m s κ γ σ y σ1 hA I F h1) (fun a s₁ q => ?_) fun _ _ z => z)
  obtain ⟨κ1, γ1, S1, I1, R1⟩ := q
  split at e
  · rename_i i hi
    simp only at hi
    subst hi
    simp at e
    obtain ⟨rfl, rfl⟩ := e
    obtain ⟨t, rfl⟩ := R1
    exact P.neg_int (EvP.then S1 (EvP.int I1))
  · cases e
theorem ifexp_node {t a b : Expr} {p : Pos} (ht : TrOk T c Φ k t) (ha : EvOk T c Φ k a) (hb : EvOk T c Φ k b) : EvOk T c Φ k (.IfExp t a b p) := by
  intro A env sc m s κ γ σ v σ' hA I F e
  simp only [ev, Option.bind_eq_some_iff] at e
  obtain ⟨⟨x, σ1⟩, h1, e⟩ := e
  refine wpAny_IfExp (wpAny_mono (ht A env sc m s κ γ σ x σ1 hA I F h1) (fun y s₁ q => ?_) fun _ _ z => z)
  obtain ⟨κ1, γ1, S1, I1, rfl⟩ := q
  cases y
  · simp only [Bool.false_eq_true, if_false] at e ⊢
    exact wpAny_mono (hb A env sc m s₁ κ1 γ1 σ1 v σ' hA I1 (F.step S1) e) (fun _ _ z => EvP.then S1 z) fun _ _ z => z
  · simp only [if_true] at e ⊢
    exact wpAny_mono (ha A env sc m s₁ κ1 γ1 σ1 v σ' hA I1 (F.step S1) e) (fun _ _ z => EvP.then S1 z) fun _ _ z => z
theorem cmp_node {l r : Expr} {op : CmpOp} {p : Pos} (hl : EvOk T c Φ k l) (hr : EvOk T c Φ k r) : EvOk T c Φ k (.Compare l [op] [r] p) := by
  intro A env sc m s κ γ σ v σ' hA I F e
  simp only [ev, Option.bind_eq_some_iff, Option.map_eq_some_iff] at e
  obtain ⟨⟨x, σ1⟩, h1, ⟨y, σ2⟩, h2, b, hb, e⟩ := e
  simp only [Prod.mk.injEq] at e
  obtain ⟨rfl, rfl⟩ := e
  refine wpAny_Compare1 (wpAny_mono (hl A env sc m s κ γ σ x σ1 hA I F h1) (fun a s₁ q => ?_) fun _ _ z => z) (marks_plain h2 op)
  obtain ⟨κ1, γ1, S1, I1, R1⟩ := q
  refine wpAny_mono (hr A env sc m s₁ κ1 γ1 σ1 y σ2 hA I1 (F.step S1) h2) (fun b' s₂ q => ?_) fun _ _ z => z
  obtain ⟨κ2, γ2, S2, I2, R2⟩ := q
  exact wpAny_mono (cmp_ok hA I2 hb (R1.step S2) R2) (fun _ _ z => EvP.then (S1.te S2) z) fun _ _ z => z
theorem evs_nil : EvsOk T c Φ k [] := by
  intro A env sc m s κ γ σ v σ' p hA I F e
  simp [evs] at e
  obtain ⟨rfl, rfl⟩ := e
  exact wpAny_items_nil ⟨κ, γ, .refl, I, rfl⟩
theorem evs_cons {x : Expr} {xs : List Expr} (hx : EvOk T c Φ k x) (hs : EvsOk T c Φ k xs) : EvsOk T c Φ k (x :: xs) := by
  intro A env sc m s κ γ σ v σ' p hA I F e
  simp only [evs, Option.bind_eq_some_iff, Option.map_eq_some_iff] at e
  obtain ⟨⟨y, σ1⟩, h1, ⟨ys, σ2⟩, h2, e⟩ := e
  simp only [Prod.mk.injEq] at e
  obtain ⟨rfl, rfl⟩ := e
  refine wpAny_items_cons (wpAny_mono (hx A env sc m s κ γ σ y σ1 hA I F h1) (fun a s₁ q => ?_) fun _ _ z => z) (star_plain h1 xs env)
  obtain ⟨κ1, γ1, S1, I1, R1⟩ := q
  refine wpAny_mono (hs A env sc m s₁ κ1 γ1 σ1 ys σ2 p hA I1 (F.step S1) h2) (fun b s₂ q => ?_) fun _ _ z => z
  obtain ⟨κ2, γ2, S2, I2, R2⟩ := q
  exact ⟨κ2, γ2, S1.te S2, I2, a, b, rfl, R1.step S2, R2⟩
theorem evs_length : ∀ {es : List Expr} {σ : Sto} {r : List AV × Sto}, evs c Φ es sc m σ = some r → r.1.length = es.length
  | [], σ, r, h => by simp [evs] at h; subst h; rfl
  | e :: es, σ, r, h => by
    simp only [evs, Option.bind_eq_some_iff, Option.map_eq_some_iff] at h
    obtain ⟨x, h1, y, h2, rfl⟩ := h
    simp [evs_length h2]
theorem list_node {es : List Expr} {p : Pos} (h : EvsOk T c Φ k es) : EvOk T c Φ k (.List es p) := by
  intro A env sc m s κ γ σ v σ' hA I F e
  simp only [ev] at e
  split at e
  · rename_i hlen
    simp only [Option.map_eq_some_iff] at e
    obtain ⟨⟨xs, σ1⟩, h1, e⟩ := e
    refine wpAny_List (wpAny_mono (h A env sc m s κ γ σ xs σ1 p hA I F h1) (fun vs s₁ q => ?_) fun _ _ z => z)
    obtain ⟨κ1, γ1, S1, I1, R1⟩ := q
    have hl := R1.length
    have hl2 := evs_length h1
    refine ⟨by simp only [sizeLine]; simp only at hl2; omega, ?_⟩
    have := mkL_post I1 c p R1 (by simp only at hl2; omega) (ep := 0) (tk := s₁.toks)
    simp only at e
    rw [e] at this
    exact EvP.then S1 this
  · cases e
theorem tuple_node {es : List Expr} {j : Nat} {p : Pos} (h : EvsOk T c Φ k es) : EvOk T c Φ k (.Tuple es j p) := by
  intro A env sc m s κ γ σ v σ' hA I F e
  simp only [ev] at e
  split at e
  · rename_i hlen
    simp only [Option.map_eq_some_iff] at e
    obtain ⟨⟨xs, σ1⟩, h1, e⟩ := e
    simp only [Prod.mk.injEq] at e
    obtain ⟨rfl, rfl⟩ := e
    refine wpAny_Tuple (wpAny_mono (h A env sc m s κ γ σ xs σ1 p hA I F h1) (fun vs s₁ q => ?_) fun _ _ z => z)
    obtain ⟨κ1, γ1, S1, I1, R1⟩ := q
    have hl := R1.length
    have hl2 := evs_length h1
    refine ⟨by simp only [sizeLine]; simp only at hl2; omega, EvP.then S1 ⟨_, _, .push _ .fz (tk := s₁.toks), I1.push _ _, .newTuple (ep := 0) R1 (by simp only at hl2; omega)⟩⟩
  · cases e
theorem dict_node {p : Pos} : EvOk T c Φ k (.Dict [] [] p) := by
  intro A env sc m s κ γ σ v σ' hA I F e
  simp [ev] at e
  obtain ⟨rfl, rfl⟩ := e
  refine wpAny_Dict_empty ⟨upc κ s.heap.objs.size (.ob σ.nx), upg γ σ.nx s.heap.objs.size, .new (push_keeps _ _) (upc_size _) (tk := s.toks), ?_, ⟨by rw [upg_self], Nat.lt_succ_self _⟩⟩
  exact I.new (push_keeps _ _) (upc_size _) ⟨[], by rw [upg_self, upc_self], by rw [upg_self]; exact ⟨rfl, Heap.DictOf.new _⟩, rfl⟩
theorem index_node {x i : Expr} {p : Pos} (hx : EvOk T c Φ k x) (hi : EvOk T c Φ k i)
    (he : ∀ sc m σ, ev c Φ (.Subscript x i p) sc m σ = (ev c Φ x sc m σ).bind fun v => (ev c Φ i sc m v.2).bind fun i => (getA i.2 v.1 i.1).map fun r => (r, i.2)) : EvOk T c Φ k (.Subscript x i p) := by
  intro A env sc m s κ γ σ v σ' hA I F e
  rw [he] at e
  simp only [Option.bind_eq_some_iff, Option.map_eq_some_iff] at e
  obtain ⟨⟨y, σ1⟩, h1, ⟨z, σ2⟩, h2, w, hw, e⟩ := e
  simp only [Prod.mk.injEq] at e
  obtain ⟨rfl, rfl⟩ := e
  refine PyProof.Rows.Subscript_ (wpAny_mono (hx A env sc m s κ γ σ y σ1 hA I F h1) (fun a s₁ q => ?_) fun _ _ z => z)
  obtain ⟨κ1, γ1, S1, I1, R1⟩ := q
  refine wpAny_mono (hi A env sc m s₁ κ1 γ1 σ1 z σ2 hA I1 (F.step S1) h2) (fun b s₂ q => ?_) fun _ _ z => z
  obtain ⟨κ2, γ2, S2, I2, R2⟩ := q
  obtain ⟨⟨Ty, id, t1, t2⟩, g⟩ := get_ok (A := A) I2 hw (R1.step S2) R2
  exact PyProof.Rows.tail_any t1 t2 (wpAny_mono g (fun _ _ z => EvP.then (S1.te S2) z) fun _ _ z => z) (sub_plain h2 _ _)
end
end Mine
namespace Mine
open PySem
/-- a part of a cut -/
def EvoP (T : Tp) (s : Shared) (κ : Addr → Col) (γ : Nat → Addr) (n : Nat) (x : Option AV) (σ' : Sto) (v : Value) (s' : Shared) : Prop :=
  ∃ κ' γ', Step Pe s κ γ n s' κ' γ' σ'.nx ∧ Inv T s' κ' γ' σ' ∧ ∀ i, optI x = some i → IsPart v i
def EvoOk (T : Tp) (c : Cfg) (Φ : Fns) (k : Nat) (o : Option Expr) : Prop := ∀ (A : Around) (env : Env) (sc : Scope) (m : Fm) (s : Shared) (κ : Addr → Col) (γ : Nat → Addr) (σ : Sto) (v : Option AV) (σ' : Sto),
  AOk A k → Inv T s κ γ σ → FrOk T env sc m s.heap κ γ σ.nx → evO c Φ o sc m σ = some (v, σ') → wpAny (model T.prog T.w) A (evalPart o env) (EvoP T s κ γ σ.nx v σ') NoE s
section
variable {T : Tp} {c : Cfg} {Φ : Fns} {k : Nat} {A : Around} {env : Env} {sc : Scope} {m : Fm} {s : Shared} {κ : Addr → Col} {γ : Nat → Addr} {σ σ' : Sto}
theorem evo_none : EvoOk T c Φ k none := by
  intro A env sc m s κ γ σ v σ' hA I F e
  simp [evO] at e
  obtain ⟨rfl, rfl⟩ := e
  exact wpAny_evalPart_none ⟨κ, γ, .refl, I, fun i hi => by simp [optI] at hi; subst hi; exact .none⟩
theorem evo_some {x : Expr} (hx : EvOk T c Φ k x) : EvoOk T c Φ k (some x) := by
  intro A env sc m s κ γ σ v σ' hA I F e
  simp only [evO, Option.map_eq_some_iff] at e
  obtain ⟨⟨y, σ1⟩, h1, e⟩ := e
  simp only [Prod.mk.injEq] at e
  obtain ⟨rfl, rfl⟩ := e
  refine wpAny_evalPart_some (wpAny_mono (hx A env sc m s κ γ σ y σ1 hA I F h1) (fun a s₁ q => ?_) fun _ _ z => z)
  obtain ⟨κ1, γ1, S1, I1, R1⟩ := q
  refine ⟨κ1, γ1, S1, I1, fun i hi => ?_⟩
  cases y <;> simp [optI] at hi
  subst hi
  obtain ⟨t, rfl⟩ := R1
  exact .int _ _
theorem slice_node {x : Expr} {lo hi : Option Expr} {sp p : Pos} (hx : EvOk T c Φ k x) (hl : EvoOk T c Φ k lo) (hh : EvoOk T c Φ k hi) : EvOk T c Φ k (.Subscript x (.Slice lo hi none sp) p) := by
  intro A env sc m s κ γ σ v σ' hA I F e
  simp only [ev, Option.bind_eq_some_iff] at e
  obtain ⟨⟨y, σ1⟩, h1, ⟨l, σ2⟩, h2, ⟨h, σ3⟩, h3, l', hl', h', hh', e⟩ := e
  refine PyProof.Rows.Subscript_ (wpAny_mono (hx A env sc m s κ γ σ y σ1 hA I F h1) (fun a s₁ q => ?_) fun _ _ z => z)
  obtain ⟨κ1, γ1, S1, I1, R1⟩ := q
  refine wpAny_Slice (wpAny_mono (hl A env sc m s₁ κ1 γ1 σ1 l σ2 hA I1 (F.step S1) h2) (fun b s₂ q => ?_) fun _ _ z => z)
  obtain ⟨κ2, γ2, S2, I2, R2⟩ := q
  refine wpAny_mono (hh A env sc m s₂ κ2 γ2 σ2 h σ3 hA I2 ((F.step S1).step S2) h3) (fun d s₃ q => ?_) fun _ _ z => z
  obtain ⟨κ3, γ3, S3, I3, R3⟩ := q
  refine wpAny_evalPart_none ?_
  have S4 : Step Pe s₃ κ3 γ3 σ3.nx { s₃ with heap := s₃.heap.push { cls := .type "slice", data := .fields #[b, d, .none] } } (upc κ3 s₃.heap.objs.size .tmp) γ3 σ3.nx := .push _ .tmp (tk := s₃.toks)
  have I4 := I3.push { cls := .type "slice", data := .fields #[b, d, .none] } .tmp (tk := s₃.toks)
  obtain ⟨⟨Ty, id, t1, t2⟩, g⟩ := slice_ok (A := A) I4 (by simpa using e) (((R1.step S2).step S3).step S4) (Heap.get?_push_size _ rfl) (R2 _ hl') (R3 _ hh')
  exact PyProof.Rows.tail_any t1 t2 (wpAny_mono g (fun _ _ z => EvP.then ((S1.te S2).te (S3.te S4)) z) fun _ _ z => z) rfl
theorem rev_node {x st : Expr} {lo hi : Option Expr} {sp p : Pos} (hx : EvOk T c Φ k x) : EvOk T c Φ k (.Subscript x (.Slice lo hi (some st) sp) p) := by
  intro A env sc m s κ γ σ v σ' hA I F e
  simp only [ev] at e
  split at e
  case isFalse => cases e
  rename_i hc
  obtain ⟨hlo, hhi, hst⟩ := hc
  rw [Option.isNone_iff_eq_none] at hlo hhi
  subst hlo hhi
  obtain ⟨j, p1, p2, rfl⟩ : ∃ j p1 p2, st = .UnaryOp .USub (.Constant (.int 1) j p1) p2 := by
    unfold isNeg1 at hst
    split at hst
    · rename_i i j p1 p2
      have : i = 1 := by simpa using hst
      subst this
      exact ⟨_, _, _, rfl⟩
    · cases hst
  simp only [Option.bind_eq_some_iff, Option.map_eq_some_iff] at e
  obtain ⟨⟨y, σ1⟩, h1, xs, h2, e⟩ := e
  refine PyProof.Rows.Subscript_ (wpAny_mono (hx A env sc m s κ γ σ y σ1 hA I F h1) (fun a s₁ q => ?_) fun _ _ z => z)
  obtain ⟨κ1, γ1, S1, I1, R1⟩ := q
  refine wpAny_Slice (wpAny_evalPart_none (wpAny_evalPart_none (wpAny_evalPart_some ?_)))
  refine wpAny_mono (usub_node (T := T) (c := c) (Φ := Φ) (k := k) const_ok A env sc m s₁ κ1 γ1 σ1 (.int (-1)) σ1 hA I1 (F.step S1) (by simp [ev])) (fun d s₂ q => ?_) fun _ _ z => z
  obtain ⟨κ2, γ2, S2, I2, t, rfl⟩ := q
  have S4 : Step Pe s₂ κ2 γ2 σ1.nx { s₂ with heap := s₂.heap.push { cls := .type "slice", data := .fields #[.none, .none, .int (-1) t] } } (upc κ2 s₂.heap.objs.size .tmp) γ2 σ1.nx := .push _ .tmp (tk := s₂.toks)
  have I4 := I2.push { cls := .type "slice", data := .fields #[.none, .none, .int (-1) t] } .tmp (tk := s₂.toks)
  obtain ⟨⟨Ty, id, t1, t2⟩, g⟩ := rev_ok (A := A) (c := c) (p := p) I4 h2 ((R1.step S2).step S4) (Heap.get?_push_size _ rfl) (.int _ _)
  simp only at e
  rw [e] at g
  exact PyProof.Rows.tail_any t1 t2 (wpAny_mono g (fun _ _ z => EvP.then (S1.te (S2.te S4)) z) fun _ _ z => z) rfl
theorem attr_node (O : TopOk T c) {x : Expr} {n : Str} {p : Pos} (hx : EvOk T c Φ k x) : EvOk T c Φ k (.Attribute x n p) := by
  intro A env sc m s κ γ σ v σ' hA I F e
  simp only [ev] at e
  split at e
  · rename_i hb
    simp only [Option.bind_eq_some_iff, Option.map_eq_some_iff] at e
    obtain ⟨⟨y, σ1⟩, h1, z, h2, e⟩ := e
    simp only [Prod.mk.injEq] at e
    obtain ⟨rfl, rfl⟩ := e
    rw [arm_eval_Attribute, base_plain hb]
    refine wpAny_bind (wpAny_mono (hx A env sc m s κ γ σ y σ1 hA I F h1) (fun a s₁ q => wpAny_bind (wpAny_standAt (wpAny_bind (wpAny_holding ?_)))) fun _ _ z => z)
    obtain ⟨κ1, γ1, S1, I1, R1⟩ := q
    have h2' := h2
    unfold attrA at h2
    simp only at h2
    split at h2
    · obtain ⟨rfl, _⟩ := R1
      exact O.attr I1 h2' fun u tk r => wpAny_bind (wpAny_letTemporaryGo (wpAny_pure (EvP.then S1 (EvP.toks I1 r))))
    · cases h2
  · cases e
theorem args_plain {p : Pos} : ∀ {es : List Expr} {σ : Sto} {r : List AV × Sto}, evs c Φ es sc m σ = some r → (backTo p (starEach es env)).any (·.1) = false ∧ (backTo p (starEach es env)).all (fun x => !x.1) = true
  | [], σ, r, h => ⟨rfl, rfl⟩
  | e :: es, σ, r, h => by
    simp only [evs, Option.bind_eq_some_iff, Option.map_eq_some_iff] at h
    obtain ⟨x, h1, y, h2, rfl⟩ := h
    have ih := args_plain (p := p) h2
    rw [star_plain h1]
    exact ⟨by show (false || (backTo p (starEach es env)).any (·.1)) = false; rw [ih.1]; rfl, by show (true && (backTo p (starEach es env)).all (fun x => !x.1)) = true; rw [ih.2]; rfl⟩
/-- the arguments of a call, none or some -/
theorem evalArgs_ok {es : List Expr} {p : Pos} {f : Value} (h : EvsOk T c Φ k es) {as : List AV} (hA : AOk A k) (I : Inv T s κ γ σ) (F : FrOk T env sc m s.heap κ γ σ.nx) (e : evs c Φ es sc m σ = some (as, σ')) {Q : Args → Shared → Prop}
    (hq : ∀ vs s', EvsP T s κ γ σ.nx as σ' vs s' → Q ⟨vs, []⟩ s') : wpAny (model T.prog T.w) A (evalArgs f true (backTo p (starEach es env)) []) Q NoE s := by
  cases es with
  | nil =>
    simp [evs] at e
    obtain ⟨rfl, rfl⟩ := e
    exact PyProof.Rows.evalArgs_nil3 (hq _ _ ⟨κ, γ, .refl, I, rfl⟩)
  | cons x xs =>
    have hz := h A env sc m s κ γ σ as σ' p hA I F e
    have e' := e
    simp only [evs, Option.bind_eq_some_iff, Option.map_eq_some_iff] at e'
    obtain ⟨y, h1, _⟩ := e'
    rw [star_plain h1] at hz ⊢
    exact Calls.evalArgs_plain (wpAny_mono hz (fun vs s' q => hq vs s' q) fun _ _ z => z)
theorem meth_node (O : TopOk T c) (hΦ : FnsOk T Φ k) {x : Expr} {n : Str} {ap p : Pos} {es : List Expr} (hx : EvOk T c Φ k x) (hs : EvsOk T c Φ k es) : EvOk T c Φ k (.Call (.Attribute x n ap) es [] p) := by
  intro A env sc m s κ γ σ v σ' hA I F e
  simp only [ev] at e
  split at e
  · rename_i hg
    obtain ⟨hb, hline, hlen⟩ := hg
    simp only [Option.bind_eq_some_iff] at e
    obtain ⟨⟨y, σ1⟩, h1, mt, h2, ⟨as, σ2⟩, h3, e⟩ := e
    rw [arm_eval_Call, base_plain hb]
    refine wpAny_bind (wpAny_mono (hx A env sc m s κ γ σ y σ1 hA I F h1) (fun a s₁ q => wpAny_bind (wpAny_standAt ?_)) fun _ _ z => z)
    obtain ⟨κ1, γ1, S1, I1, R1⟩ := q
    have hp := args_plain (env := env) (p := p) h3
    have hform : methodCallForm (es.length + ([] : List Keyword).length) (backTo p (starEach es env)) (backToKw p (keywordEach [] env)) = true := by
      unfold methodCallForm
      rw [hp.2]
      show (true && true && decide (es.length + 0 + 0 < 30)) = true
      simpa using hlen
    have hpos : methodCallPos true x env ap p = pure p := by unfold methodCallPos; simp [hline]
    unfold methodCall
    rw [hform]
    have hof := resM_of h2
    have main : ∀ f, mthV T mt = some f → wpAny (model T.prog T.w) A (methodCallPos true x env ap p >>= fun cp => callWith cp f [a] (backTo p (starEach es env)) (backToKw p (keywordEach [] env))) (EvP T s κ γ σ.nx v σ') NoE s₁ := by
      intro f hf
      refine wpAny_bind (wpAny_of_eq hpos ?_)
      have tail : ∀ vs s₂, EvsP T s₁ κ1 γ1 σ1.nx as σ2 vs s₂ → (∃ κ γ σ, Inv T s₂ κ γ σ) ∧ wpAny (model T.prog T.w) A (call f ([a] ++ vs)) (EvP T s κ γ σ.nx v σ') NoE s₂ := by
        rintro vs s₂ ⟨κ2, γ2, S2, I2, R2⟩
        refine ⟨⟨κ2, γ2, σ2, I2⟩, wpAny_mono (runM_ok (v := a) I2 O.sys e hf (by rw [hof]; exact R1.step S2) R2 ?_) (fun _ _ z => EvP.then (S1.te S2) z) fun _ _ z => z⟩
        rintro l nm rfl hcall
        exact hΦ nm _ v σ2 σ' A s₂ κ2 γ2 f (a :: vs) hcall hA I2 hf ⟨a, vs, rfl, by have := R1.step S2; simp only [mthOf] at hof; rw [hof]; exact this, R2⟩
      have ha : ∀ g, wpAny (model T.prog T.w) A (evalArgs g true (backTo p (starEach es env)) []) (fun ar s₂ => (∃ κ γ σ, Inv T s₂ κ γ σ) ∧ wpAny (model T.prog T.w) A (call f ([a] ++ ar.pos) ar.kw) (EvP T s κ γ σ.nx v σ') NoE s₂) NoE s₁ :=
        fun g => evalArgs_ok hs hA I1 (F.step S1) h3 fun vs s' q => tail vs s' q
      have bi : ∀ id, f = .builtin id → wpAny (model T.prog T.w) A (callWith p f [a] (backTo p (starEach es env)) (backToKw p (keywordEach [] env))) (EvP T s κ γ σ.nx v σ') NoE s₁ := by
        rintro id rfl
        exact Calls.callWith_builtin hp.1 (wpAny_mono (ha _) (fun _ _ z => z.2) fun _ _ z => z)
      cases mt with
      | lex l nm => exact O.cw hf (ha _) hp.1
      | _ => injection hf with hf; exact bi _ hf.symm
    refine wpAny_bind (wpAny_holding ?_)
    show wpAny (model T.prog T.w) A (getMethod a n _) _ NoE s₁
    refine resM_ok I1 O.sys h2 R1 (fun l ln lf push hg hv hn hmt => ?_) main
    subst hv hmt
    exact O.meth I1 hg hn fun f hf => main f hf
  · cases e
theorem callV_ok (hΦ : FnsOk T Φ k) {g : AV} {f : Value} {as : List AV} {vs : List Value} {p : Pos} {z : AV} (hA : AOk A k) (I : Inv T s κ γ σ) (e : callV c Φ p g as σ = some (z, σ')) (rg : Rep T s.heap κ γ σ.nx g f)
    (r : RepL T s.heap κ γ σ.nx as vs) : wpAny (model T.prog T.w) A (call f vs) (EvP T s κ γ σ.nx z σ') NoE s := by
  unfold callV at e
  split at e
  · exact callB_ok hA I rg e r
  · exact hΦ _ _ _ _ _ _ _ _ _ _ _ e hA I rg r
  · cases e
/-- a call of what a name says: any callee -/
theorem callWith_ok (O : TopOk T c) {g : AV} {f : Value} {p : Pos} {args : List (Bool × Sem Value)} (hp : args.any (·.1) = false) (hg : ∃ n, g = .bi n ∨ g = .glob n) (rg : Rep T s.heap κ γ σ.nx g f) {Q : Value → Shared → Prop}
    (h : ∀ g, wpAny (model T.prog T.w) A (evalArgs g true args []) (fun a s₁ => (∃ κ γ σ, Inv T s₁ κ γ σ) ∧ wpAny (model T.prog T.w) A (call f a.pos a.kw) Q NoE s₁) NoE s) :
    wpAny (model T.prog T.w) A (callWith p f [] args []) Q NoE s := by
  obtain ⟨n, rfl | rfl⟩ := hg
  · have hf : (∃ id, f = .builtin id) ∨ ∃ id, f = .type id := by
      rcases biV_cases rg with ⟨_, rfl⟩ | ⟨_, rfl⟩ | ⟨_, rfl⟩ | ⟨_, rfl⟩ | ⟨_, rfl⟩ | ⟨_, rfl⟩ | ⟨_, rfl⟩ | ⟨_, rfl⟩ | ⟨_, rfl⟩ | ⟨_, rfl⟩
      all_goals first | exact .inl ⟨_, rfl⟩ | exact .inr ⟨_, rfl⟩
    rcases hf with ⟨id, rfl⟩ | ⟨id, rfl⟩
    · exact Calls.callWith_builtin hp (wpAny_mono (h _) (fun _ _ z => z.2) fun _ _ z => z)
    · exact PyProof.Rows.callWith_type hp (wpAny_mono (h _) (fun _ _ z => z.2) fun _ _ z => z)
  · exact O.cw rg (h _) hp
theorem call_node (O : TopOk T c) (hΦ : FnsOk T Φ k) {f : Str} {fp p : Pos} {es : List Expr} (hs : EvsOk T c Φ k es)
    (he : ∀ sc m σ, ev c Φ (.Call (.Name f fp) es [] p) sc m σ = (look c sc m f).bind fun g => (evs c Φ es sc m σ).bind fun as => callV c Φ p g as.1 as.2) : EvOk T c Φ k (.Call (.Name f fp) es [] p) := by
  intro A env sc m s κ γ σ v σ' hA I F e
  rw [he] at e
  simp only [Option.bind_eq_some_iff] at e
  obtain ⟨g, h1, ⟨as, σ1⟩, h2, e⟩ := e
  refine PyProof.Rows.Call_Name rfl ?_
  have z := look_ok (A := A) O I F h1 (Q := fun u s₁ => wpAny (model T.prog T.w) A (callWith p u [] (backTo p (starEach es env)) []) (EvP T s κ γ σ.nx v σ') NoE s₁) fun u r => by
    have hg : ∃ n, g = .bi n ∨ g = .glob n := by
      unfold callV at e
      split at e
      · exact ⟨_, .inl rfl⟩
      · exact ⟨_, .inr rfl⟩
      · cases e
    refine callWith_ok O (args_plain h2).1 hg r fun q => evalArgs_ok hs hA I F h2 fun vs s' z => ?_
    obtain ⟨κ1, γ1, S1, I1, R1⟩ := z
    exact ⟨⟨κ1, γ1, σ1, I1⟩, wpAny_mono (callV_ok hΦ hA I1 e (r.step S1) R1) (fun _ _ z => EvP.then S1 z) fun _ _ z => z⟩
  exact wpAny_Name z.2 z.1
/-- tests -/
theorem tr_not {x : Expr} {p : Pos} (hx : TrOk T c Φ k x) : TrOk T c Φ k (.UnaryOp .Not x p) := by
  intro A env sc m s κ γ σ b σ' hA I F e
  simp only [tr, Option.map_eq_some_iff] at e
  obtain ⟨⟨y, σ1⟩, h1, e⟩ := e
  simp only [Prod.mk.injEq] at e
  obtain ⟨rfl, rfl⟩ := e
  refine wpAny_isTrue_Not (wpAny_mono (hx A env sc m s κ γ σ y σ1 hA I F h1) (fun a s₁ q => ?_) fun _ _ z => z)
  obtain ⟨κ1, γ1, S1, I1, rfl⟩ := q
  exact ⟨κ1, γ1, S1, I1, rfl⟩
def TrbOk (T : Tp) (c : Cfg) (Φ : Fns) (k : Nat) (op : BoolOp) (es : List Expr) : Prop := ∀ (A : Around) (env : Env) (sc : Scope) (m : Fm) (s : Shared) (κ : Addr → Col) (γ : Nat → Addr) (σ : Sto) (b : Bool) (σ' : Sto),
  AOk A k → Inv T s κ γ σ → FrOk T env sc m s.heap κ γ σ.nx → trB c Φ op es sc m σ = some (b, σ') → wpAny (model T.prog T.w) A (allTrue op es env) (TrP T s κ γ σ.nx b σ') NoE s
theorem trb_nil {op : BoolOp} : TrbOk T c Φ k op [] := by
  intro A env sc m s κ γ σ b σ' hA I F e
  simp [trB] at e
  obtain ⟨rfl, rfl⟩ := e
  rw [arm_allTrue_nil]
  exact wpAny_pure ⟨κ, γ, .refl, I, rfl⟩
theorem trb_cons {op : BoolOp} {x : Expr} {xs : List Expr} (hx : TrOk T c Φ k x) (hs : TrbOk T c Φ k op xs) : TrbOk T c Φ k op (x :: xs) := by
  intro A env sc m s κ γ σ b σ' hA I F e
  simp only [trB, Option.bind_eq_some_iff] at e
  obtain ⟨⟨y, σ1⟩, h1, e⟩ := e
  rw [arm_allTrue_cons]
  refine wpAny_bind (wpAny_mono (hx A env sc m s κ γ σ y σ1 hA I F h1) (fun a s₁ q => ?_) fun _ _ z => z)
  obtain ⟨κ1, γ1, S1, I1, rfl⟩ := q
  have go : ∀ b, trB c Φ op xs sc m σ1 = some (b, σ') → wpAny (model T.prog T.w) A (allTrue op xs env) (TrP T s κ γ σ.nx b σ') NoE s₁ := fun b e =>
    wpAny_mono (hs A env sc m s₁ κ1 γ1 σ1 b σ' hA I1 (F.step S1) e) (fun _ _ z => TrP.then S1 z) fun _ _ z => z
  cases op <;> cases a <;> simp only at e ⊢
  · simp at e
    obtain ⟨rfl, rfl⟩ := e
    exact wpAny_pure ⟨κ1, γ1, S1, I1, rfl⟩
  · exact go _ e
  · exact go _ e
  · simp at e
    obtain ⟨rfl, rfl⟩ := e
    exact wpAny_pure ⟨κ1, γ1, S1, I1, rfl⟩
theorem tr_bool {op : BoolOp} {es : List Expr} {p : Pos} (hs : TrbOk T c Φ k op es) : TrOk T c Φ k (.BoolOp op es p) := by
  intro A env sc m s κ γ σ b σ' hA I F e
  simp only [tr] at e
  exact wpAny_isTrue_BoolOp (hs A env sc m s κ γ σ b σ' hA I F e)
def TrcOk (T : Tp) (c : Cfg) (Φ : Fns) (k : Nat) (ops : List CmpOp) (es : List Expr) : Prop := ∀ (A : Around) (env : Env) (sc : Scope) (m : Fm) (s : Shared) (κ : Addr → Col) (γ : Nat → Addr) (σ : Sto) (x : AV) (v : Value) (b : Bool) (σ' : Sto) (p : Pos),
  AOk A k → Inv T s κ γ σ → FrOk T env sc m s.heap κ γ σ.nx → Rep T s.heap κ γ σ.nx x v → trC c Φ ops es x sc m σ = some (b, σ') → wpAny (model T.prog T.w) A (testChain p v ops (markedEach ops es (evalEach es env))) (TrP T s κ γ σ.nx b σ') NoE s
theorem trc_one {op : CmpOp} {x : Expr} (hx : EvOk T c Φ k x) : TrcOk T c Φ k [op] [x] := by
  intro A env sc m s κ γ σ y v b σ' p hA I F R e
  simp only [trC, Option.bind_eq_some_iff, Option.map_eq_some_iff] at e
  obtain ⟨⟨z, σ1⟩, h1, b', h2, e⟩ := e
  simp only [Prod.mk.injEq] at e
  obtain ⟨rfl, rfl⟩ := e
  have hm : markedEach [op] [x] (evalEach [x] env) = [eval x env] := by
    show [markedBehindIn op x (eval x env)] = _
    unfold markedBehindIn
    rw [marks_plain h1 op]
  rw [hm]
  unfold testChain
  refine wpAny_bind (wpAny_holding (wpAny_mono (hx A env sc m s κ γ σ z σ1 hA I F h1) (fun a s₁ q => wpAny_bind (wpAny_standAt (wpAny_bind (wpAny_operating ?_)))) fun _ _ z => z))
  obtain ⟨κ1, γ1, S1, I1, R1⟩ := q
  refine wpAny_mono (cmp_ok hA I1 h2 (R.step S1) R1) (fun d s₂ q => ?_) fun _ _ z => z
  obtain ⟨κ2, γ2, S2, I2, rfl⟩ := q
  exact wpAny_holding (wpAny_truthy_bool ⟨κ2, γ2, S1.te S2, I2, rfl⟩)
theorem trc_cons {op op' : CmpOp} {ops : List CmpOp} {x x' : Expr} {xs : List Expr} (hx : EvOk T c Φ k x) (hs : TrcOk T c Φ k (op' :: ops) (x' :: xs)) : TrcOk T c Φ k (op :: op' :: ops) (x :: x' :: xs) := by
  intro A env sc m s κ γ σ y v b σ' p hA I F R e
  simp only [trC, Option.bind_eq_some_iff] at e
  obtain ⟨⟨z, σ1⟩, h1, b', h2, e⟩ := e
  have hm : markedEach (op :: op' :: ops) (x :: x' :: xs) (evalEach (x :: x' :: xs) env) = eval x env :: markedEach (op' :: ops) (x' :: xs) (evalEach (x' :: xs) env) := rfl
  rw [hm]
  unfold testChain
  refine wpAny_bind (wpAny_holding (wpAny_mono (hx A env sc m s κ γ σ z σ1 hA I F h1) (fun a s₁ q => wpAny_bind (wpAny_standAt (wpAny_bind (wpAny_holding ?_)))) fun _ _ z => z))
  obtain ⟨κ1, γ1, S1, I1, R1⟩ := q
  refine wpAny_mono (cmp_ok hA I1 h2 (R.step S1) R1) (fun d s₂ q => wpAny_bind (wpAny_release (wpAny_bind (wpAny_holding ?_)))) fun _ _ z => z
  obtain ⟨κ2, γ2, S2, I2, rfl⟩ := q
  refine wpAny_truthy_bool ?_
  cases b'
  · simp at e
    obtain ⟨rfl, rfl⟩ := e
    exact wpAny_pure ⟨κ2, γ2, S1.te S2, I2, rfl⟩
  · simp only [if_true] at e ⊢
    exact wpAny_mono (hs A env sc m s₂ κ2 γ2 σ1 z a b σ' p hA I2 ((F.step S1).step S2) (R1.step S2) e) (fun _ _ z => TrP.then (S1.te S2) z) fun _ _ z => z
theorem tr_cmp {l : Expr} {ops : List CmpOp} {es : List Expr} {p : Pos} (hl : EvOk T c Φ k l) (hs : ops.length = es.length → TrcOk T c Φ k ops es) : TrOk T c Φ k (.Compare l ops es p) := by
  intro A env sc m s κ γ σ b σ' hA I F e
  simp only [tr] at e
  split at e
  case isFalse => cases e
  rename_i hlen
  replace hs := hs hlen
  simp only [Option.bind_eq_some_iff] at e
  obtain ⟨⟨z, σ1⟩, h1, e⟩ := e
  rw [arm_isTrue_Compare]
  refine wpAny_bind (wpAny_mono (hl A env sc m s κ γ σ z σ1 hA I F h1) (fun a s₁ q => ?_) fun _ _ z => z)
  obtain ⟨κ1, γ1, S1, I1, R1⟩ := q
  exact wpAny_mono (hs A env sc m s₁ κ1 γ1 σ1 z a b σ' p hA I1 (F.step S1) R1 e) (fun _ _ z => TrP.then S1 z) fun _ _ z => z
theorem tr_value {x : Expr} (hx : EvOk T c Φ k x) (hi : ∀ env w, isTrue x env w = (do let v ← w; standAt x.pos; holding [v] (truthy v)))
    (he : ∀ w sc m σ, tr c Φ x w sc m σ = (w m σ).bind fun v => (truthA v.2 v.1).map fun b => (b, v.2)) : TrOk T c Φ k x := by
  intro A env sc m s κ γ σ b σ' hA I F e
  rw [he] at e
  simp only [Option.bind_eq_some_iff, Option.map_eq_some_iff] at e
  obtain ⟨⟨z, σ1⟩, h1, b', h2, e⟩ := e
  simp only [Prod.mk.injEq] at e
  obtain ⟨rfl, rfl⟩ := e
  refine wpAny_isTrue_value (wpAny_mono (hx A env sc m s κ γ σ z σ1 hA I F h1) (fun a s₁ q => ?_) fun _ _ z => z) (hi _ _)
  obtain ⟨κ1, γ1, S1, I1, R1⟩ := q
  exact wpAny_mono (truth_ok I1 h2 R1) (fun _ _ z => TrP.then S1 z) fun _ _ z => z
/-- and, or -/
def EvbOk (T : Tp) (c : Cfg) (Φ : Fns) (k : Nat) (op : BoolOp) (es : List Expr) : Prop := ∀ (A : Around) (env : Env) (sc : Scope) (m : Fm) (s : Shared) (κ : Addr → Col) (γ : Nat → Addr) (σ : Sto) (v : AV) (σ' : Sto) (p : Pos),
  AOk A k → Inv T s κ γ σ → FrOk T env sc m s.heap κ γ σ.nx → evB c Φ op es sc m σ = some (v, σ') → wpAny (model T.prog T.w) A (boolOp p op (evalEach es env)) (EvP T s κ γ σ.nx v σ') NoE s
theorem evb_nil {op : BoolOp} : EvbOk T c Φ k op [] := by
  intro A env sc m s κ γ σ b σ' p hA I F e
  simp [evB] at e
theorem evb_one {op : BoolOp} {x : Expr} (hx : EvOk T c Φ k x) : EvbOk T c Φ k op [x] := by
  intro A env sc m s κ γ σ b σ' p hA I F e
  simp only [evB] at e
  exact hx A env sc m s κ γ σ b σ' hA I F e
theorem evb_cons {op : BoolOp} {x x' : Expr} {xs : List Expr} (hx : EvOk T c Φ k x) (hs : EvbOk T c Φ k op (x' :: xs)) : EvbOk T c Φ k op (x :: x' :: xs) := by
  intro A env sc m s κ γ σ v σ' p hA I F e
  simp only [evB, Option.bind_eq_some_iff] at e
  obtain ⟨⟨z, σ1⟩, h1, b, h2, e⟩ := e
  show wpAny _ A (boolOp p op (eval x env :: eval x' env :: evalEach xs env)) _ _ _
  unfold boolOp
  refine wpAny_bind (wpAny_mono (hx A env sc m s κ γ σ z σ1 hA I F h1) (fun a s₁ q => wpAny_bind (wpAny_standAt (wpAny_bind (wpAny_holding ?_)))) fun _ _ z => z)
  obtain ⟨κ1, γ1, S1, I1, R1⟩ := q
  refine wpAny_mono (truth_ok I1 h2 R1) (fun d s₂ q => ?_) fun _ _ z => z
  obtain ⟨κ2, γ2, S2, I2, rfl⟩ := q
  have go : evB c Φ op (x' :: xs) sc m σ1 = some (v, σ') → wpAny (model T.prog T.w) A (boolOp p op (evalEach (x' :: xs) env)) (EvP T s κ γ σ.nx v σ') NoE s₂ := fun e =>
    wpAny_mono (hs A env sc m s₂ κ2 γ2 σ1 v σ' p hA I2 ((F.step S1).step S2) e) (fun _ _ z => EvP.then (S1.te S2) z) fun _ _ z => z
  have stop : some (z, σ1) = some (v, σ') → wpAny (model T.prog T.w) A (pure a) (EvP T s κ γ σ.nx v σ') NoE s₂ := fun e => by
    simp at e
    obtain ⟨rfl, rfl⟩ := e
    exact wpAny_pure ⟨κ2, γ2, S1.te S2, I2, R1.step S2⟩
  cases op <;> cases d <;> simp only at e ⊢
  · exact stop e
  · exact go e
  · exact go e
  · exact stop e
theorem bool_node {op : BoolOp} {es : List Expr} {p : Pos} (hs : EvbOk T c Φ k op es) : EvOk T c Φ k (.BoolOp op es p) := by
  intro A env sc m s κ γ σ v σ' hA I F e
  simp only [ev] at e
  rw [arm_eval_BoolOp]
  exact hs A env sc m s κ γ σ v σ' p hA I F e
end
end Mine
namespace Mine
open PySem
/-- only these addresses change, and nothing else is coloured anew -/
structure Moved (O : List Addr) (s : Shared) (κ : Addr → Col) (s' : Shared) (κ' : Addr → Col) : Prop where
  keep : ∀ b o, b ∉ O → s.heap.get? b = some o → s'.heap.get? b = some o
  col : ∀ b, (s.heap.get? b).isSome → κ' b = κ b
  gens : s'.gens = s.gens
  os : s'.os = s.os
/-- the iterator's own objects -/
def Tmps (h : Heap) (κ : Addr → Col) (O : List Addr) : Prop := ∀ b ∈ O, κ b = .tmp ∧ (h.get? b).isSome
section
variable {T : Tp} {O : List Addr} {s s' s'' : Shared} {κ κ' κ'' : Addr → Col} {γ γ' : Nat → Addr} {n n' : Nat} {σ : Sto} {P : Addr → Col → Prop} {s₀ : Shared} {κ₀ : Addr → Col} {γ₀ : Nat → Addr} {n₀ : Nat}
theorem Moved.alive (M : Moved O s κ s' κ') {b : Addr} (hb : b ∉ O) (e : (s.heap.get? b).isSome) : (s'.heap.get? b).isSome := by
  obtain ⟨o, ho⟩ := Option.isSome_iff_exists.mp e
  rw [M.keep b o hb ho]; rfl
theorem Moved.trans (a : Moved O s κ s' κ') (ha : ∀ b ∈ O, (s.heap.get? b).isSome → (s'.heap.get? b).isSome) (b : Moved O s' κ' s'' κ'') : Moved O s κ s'' κ'' :=
  ⟨fun x o h e => b.keep x o h (a.keep x o h e), fun x e => by
    have e' : (s'.heap.get? x).isSome := by
      by_cases q : x ∈ O
      · exact ha x q e
      · exact a.alive q e
    rw [b.col x e', a.col x e], b.gens.trans a.gens, b.os.trans a.os⟩
theorem Moved.same {b : Addr} {h' : Heap} {tk : Nat} (hs : Heap.SameBut b s.heap h') (hb : b ∈ O) : Moved O s κ { s with heap := h', toks := tk } κ :=
  ⟨fun x o hx e => (hs.2 x (by rintro rfl; exact hx hb)).trans e, fun _ _ => rfl, rfl, rfl⟩
theorem Moved.ext {b : Addr} {h' : Heap} {tk : Nat} (hs : Heap.ExtBut b s.heap h') (hb : b ∈ O) : Moved O s κ { s with heap := h', toks := tk } κ :=
  ⟨fun x o hx e => hs x o (by rintro rfl; exact hx hb) e, fun _ _ => rfl, rfl, rfl⟩
theorem Moved.lasts (M : Moved O s κ s' κ') (hO : Tmps s.heap κ O) : Lasts s.heap κ γ n s'.heap κ' γ n :=
  ⟨fun a o e q => ⟨M.keep a o (by intro x; rw [(hO a x).1] at q; cases q) e, by rw [M.col a (by rw [e]; rfl), q]⟩, fun _ _ => rfl, Nat.le_refl _⟩
theorem Moved.inv (M : Moved O s κ s' κ') (hO : Tmps s.heap κ O) (I : Inv T s κ γ σ) : Inv T s' κ' γ σ where
  base a o e := by
    have z := I.base a o e
    exact ⟨M.keep a o (by intro x; rw [(hO a x).1] at z; cases z.2) z.1, by rw [M.col a (by rw [z.1]; rfl)]; exact z.2⟩
  objs l o e := by
    have z := I.objs l o e
    exact ⟨z.1, z.2.lasts (M.lasts hO) z.1 fun a o q g => ⟨M.keep a o (by intro x; rw [(hO a x).1] at q; cases q) g, by rw [M.col a (by rw [g]; rfl)]; exact q⟩⟩
theorem Moved.fr {env : Env} {sc : Scope} {m : Fm} (M : Moved O s κ s' κ') (hO : Tmps s.heap κ O) (F : FrOk T env sc m s.heap κ γ n) : FrOk T env sc m s'.heap κ' γ n :=
  F.keeps (M.lasts hO) fun a o L e q => ⟨M.keep a o (by intro x; rw [(hO a x).1] at q; cases q) e, by rw [M.col a (by rw [e]; rfl)]; exact q⟩
theorem Moved.step (M : Moved O s κ s' κ') (S : Step P s₀ κ₀ γ₀ n₀ s κ γ n) (hn : ∀ b ∈ O, s₀.heap.get? b = none) : Step P s₀ κ₀ γ₀ n₀ s' κ' γ n where
  keep a o e q := M.keep a o (by intro x; rw [hn a x] at e; cases e) (S.keep a o e q)
  alive a e := M.alive (by intro x; rw [hn a x] at e; cases e) (S.alive a e)
  col a e q := by rw [M.col a (S.alive a e), S.col a e q]
  gam := S.gam
  nx := S.nx
  gens := M.gens.trans S.gens
  os := M.os.trans S.os
theorem Moved.tmps {O' : List Addr} (M : Moved O s κ s' κ') (hO : Tmps s.heap κ O') (hd : ∀ b ∈ O', b ∉ O) : Tmps s'.heap κ' O' := fun b hb => ⟨by rw [M.col b (hO b hb).2]; exact (hO b hb).1, M.alive (hd b hb) (hO b hb).2⟩
theorem Step.tmps {O' : List Addr} (S : Step P s κ γ n s' κ' γ' n') (hO : Tmps s.heap κ O') : Tmps s'.heap κ' O' := fun b hb => ⟨by rw [S.col b (hO b hb).2 (by rw [(hO b hb).1]; rfl)]; exact (hO b hb).1, S.alive b (hO b hb).2⟩
/-- an iterator over a source, at its place -/
def ItOk (T : Tp) (h : Heap) (κ : Addr → Col) (γ : Nat → Addr) (n : Nat) (O : List Addr) (i : Nat) (a : Addr) : Src → Prop
  | .pairs ps => ∃ TI TO i1 i2 l1 l2 xs ys vs us e1 e2, O = [a, TI, TO, i1, i2] ∧ ZipApart a TI TO i1 i2 l1 l2 ∧ IsZip h a TI TO .none ∧ IsPair h TI (.ref i1) (.ref i2) ∧ (∃ p q, IsPair h TO p q) ∧ h.IsListIter i1 l1 i ∧ h.IsListIter i2 l2 i ∧
      κ l1 = .fz ∧ κ l2 = .fz ∧ h.get? l1 = some (lobj vs e1) ∧ h.get? l2 = some (lobj us e2) ∧ RepL T h κ γ n xs vs ∧ RepL T h κ γ n ys us ∧ ps = zipA xs ys
  | .val (.list xs) => ∃ l, Rep T h κ γ n (.list xs) (.ref l) ∧ O = [a] ∧ h.IsListIter a l i
  | .val (.tuple xs) => ∃ l, Rep T h κ γ n (.tuple xs) (.ref l) ∧ O = [a] ∧ h.IsTupleIter a l i
  | .val (.loc l) => l < n ∧ O = [a] ∧ h.IsListIter a (γ l) i
  | .val (.str x) => ∃ ty t, (ty = "str_ascii_iterator" ∨ ty = "str_iterator") ∧ O = [a] ∧ h.IsStrIter a ty x t i
  | .val (.range x y) => O = [a] ∧ (i : Int) ≤ (y - x).toNat ∧ IsRangeIter h a (x + i) ((y - x).toNat - i) 1
  | _ => False
theorem ItOk.lasts {h h' : Heap} {i : Nat} {a : Addr} {src : Src} (x : ItOk T h κ γ n O i a src) (L : Lasts h κ γ n h' κ' γ' n') (hk : ∀ b ∈ O, ∀ o, h.get? b = some o → h'.get? b = some o) : ItOk T h' κ' γ' n' O i a src := by
  cases src with
  | pairs ps =>
    obtain ⟨TI, TO, i1, i2, l1, l2, xs, ys, vs, us, e1, e2, rfl, D, hz, hTI, ⟨p, q, hTO⟩, h1, h2, c1, c2, g1, g2, r1, r2, rfl⟩ := x
    exact ⟨TI, TO, i1, i2, l1, l2, xs, ys, vs, us, e1, e2, rfl, D, hk _ (by simp) _ hz, hk _ (by simp) _ hTI, ⟨p, q, hk _ (by simp) _ hTO⟩, h1.at fun o e => hk _ (by simp) o e, h2.at fun o e => hk _ (by simp) o e,
      (L.fz _ _ g1 c1).2, (L.fz _ _ g2 c2).2, (L.fz _ _ g1 c1).1, (L.fz _ _ g2 c2).1, r1.lasts L, r2.lasts L, rfl⟩
  | val v =>
    cases v with
    | list xs =>
      obtain ⟨l, r, rfl, it⟩ := x
      exact ⟨l, r.lasts L, rfl, it.at fun o e => hk _ (by simp) o e⟩
    | tuple xs =>
      obtain ⟨l, r, rfl, o, ho, q⟩ := x
      exact ⟨l, r.lasts L, rfl, o, hk _ (by simp) o ho, q⟩
    | loc l =>
      obtain ⟨hl, rfl, it⟩ := x
      exact ⟨Nat.lt_of_lt_of_le hl L.nx, rfl, by rw [L.gam l hl]; exact it.at fun o e => hk _ (by simp) o e⟩
    | str y =>
      obtain ⟨ty, t, h1, rfl, o, ho, q⟩ := x
      exact ⟨ty, t, h1, rfl, o, hk _ (by simp) o ho, q⟩
    | range y z =>
      obtain ⟨rfl, h1, h2⟩ := x
      exact ⟨rfl, h1, hk _ (by simp) _ h2⟩
    | _ => exact x.elim
/-- what is there alone lets no owned tuple go -/
theorem letGo_plain {A : Around} {M : Model} {E : Value → Shared → Prop} {t : Expr} {a : Addr} {v : Value} {o : Obj} {nm : String} (ho : s.heap.get? a = some o) (hc : o.cls = .type nm)
    (hn : ["enumerate", "zip", "dict_itemiterator", "dict_reverseitemiterator", "odict_iterator", "itertools.zip_longest", "itertools.pairwise"].contains nm = false) {Q : Unit → Shared → Prop} (h : Q () s) :
    wpAny M A (letOwnedTupleGo t (.ref a) v) Q E s := by
  have main : wpAny M A (do
      let (.ref r, .ref b) := ((.ref a : Value), v) | return
      let o ← load r
      match o.cls, o.data with
      | .type n, .fields vs =>
        if ["enumerate", "zip", "dict_itemiterator", "dict_reverseitemiterator", "odict_iterator", "itertools.zip_longest", "itertools.pairwise"].contains n && vs[0]? == some (rawInt b) then
          rule "for.unpacks-the-owned-tuple"
          updateField r 0 .none
      | _, _ => pure ()) Q E s := by
    cases v with
    | ref b =>
      refine wpAny_bind (wpAny_load ho ?_)
      obtain ⟨cls, d, dt, sl⟩ := o
      simp only at hc
      subst hc
      cases dt <;> first
        | (simp only [hn, Bool.false_and, Bool.false_eq_true, if_false]; exact wpAny_pure h)
        | exact wpAny_pure h
    | _ => exact wpAny_pure h
  unfold letOwnedTupleGo
  cases t <;> first
    | exact wpAny_pure h
    | exact main
theorem items_list {σ : Sto} {v : AV} {xs : List AV} (h : lst? σ v = some xs) : items? σ v = some xs := by
  cases v <;> simp [lst?, items?] at h ⊢
  · exact h
  · exact h
theorem zipA_get : ∀ (xs ys : List AV) (i : Nat), (zipA xs ys)[i]? = match xs[i]?, ys[i]? with
    | some x, some y => some (.tuple [x, y])
    | _, _ => none
  | [], ys, i => by simp [zipA]
  | x :: xs, [], i => by cases i <;> simp [zipA] <;> cases xs[_]? <;> rfl
  | x :: xs, y :: ys, 0 => by simp [zipA]
  | x :: xs, y :: ys, i + 1 => by simpa [zipA] using zipA_get xs ys i
/-- an iterator is made -/
theorem iter_ok {A : Around} (I : Inv T s κ γ σ) {x : AV} {v : Value} {xs : List AV} (r : Rep T s.heap κ γ σ.nx x v) (e : items? σ x = some xs) {Q : Value → Shared → Prop}
    (hQ : ∀ o, s.heap.get? s.heap.objs.size = none → Step Pe s κ γ σ.nx { s with heap := s.heap.push o } (upc κ s.heap.objs.size .tmp) γ σ.nx → Inv T { s with heap := s.heap.push o } (upc κ s.heap.objs.size .tmp) γ σ →
      Tmps (s.heap.push o) (upc κ s.heap.objs.size .tmp) [s.heap.objs.size] → ItOk T (s.heap.push o) (upc κ s.heap.objs.size .tmp) γ σ.nx [s.heap.objs.size] 0 s.heap.objs.size (.val x) → Q (.ref s.heap.objs.size) { s with heap := s.heap.push o }) :
    wpAny (model T.prog T.w) A (pyIter v) Q NoE s := by
  have go : ∀ o : Obj, o.isFreed = false → ItOk T (s.heap.push o) (upc κ s.heap.objs.size .tmp) γ σ.nx [s.heap.objs.size] 0 s.heap.objs.size (.val x) → Q (.ref s.heap.objs.size) { s with heap := s.heap.push o } := fun o hf it =>
    hQ o (get?_size _) (.push o .tmp (tk := s.toks)) (I.push o .tmp (tk := s.toks)) (fun b hb => by
      rw [List.mem_singleton.mp hb]
      exact ⟨upc_self, by rw [Heap.get?_push_size _ hf]; rfl⟩) it
  cases x with
  | list ys =>
    have r' := r
    obtain ⟨a, vs, ep, rfl, c, g, b, q⟩ := r
    exact wpAny_pyIter_list (lobj_list g) (go _ rfl ⟨a, r'.lasts (.push _ _ _), rfl, _, Heap.get?_push_size _ rfl, rfl, rfl⟩)
  | tuple ys =>
    have r' := r
    obtain ⟨a, vs, ep, rfl, c, g, b, q⟩ := r
    exact wpAny_pyIter_tuple ⟨_, g, rfl, ep, rfl⟩ (go _ rfl ⟨a, r'.lasts (.push _ _ _), rfl, _, Heap.get?_push_size _ rfl, rfl, rfl⟩)
  | loc l =>
    obtain ⟨rfl, hl⟩ := r
    simp only [items?] at e
    split at e
    · rename_i hg
      obtain ⟨_, vs, ep, c, g, b, q⟩ := I.objs _ _ hg
      exact wpAny_pyIter_list (lobj_list g) (go _ rfl ⟨hl, rfl, _, Heap.get?_push_size _ rfl, rfl, rfl⟩)
    · cases e
  | str y =>
    obtain ⟨t, rfl⟩ := r
    cases ha : y.cps.all (· < 128)
    · exact wpAny_pyIter_wide ha (go _ rfl ⟨_, t, .inr rfl, rfl, _, Heap.get?_push_size _ rfl, rfl, rfl⟩)
    · exact wpAny_pyIter_ascii ha (go _ rfl ⟨_, t, .inl rfl, rfl, _, Heap.get?_push_size _ rfl, rfl, rfl⟩)
  | range y z =>
    obtain ⟨a, t, u, q, rfl, c, b, g⟩ := r
    refine wpAny_pyIter_range g (range_small b) (go _ rfl ⟨rfl, by omega, ?_⟩)
    have e1 := rangeSize_one y z
    show (s.heap.push _).get? s.heap.objs.size = _
    rw [e1, Heap.get?_push_size _ rfl]
    simp
  | _ => simp [items?] at e
/-- an iterator is its own iterator -/
theorem iter_self {A : Around} {i : Nat} {a : Addr} {src : Src} (x : ItOk T s.heap κ γ n O i a src) {Q : Value → Shared → Prop} (h : Q (.ref a) s) : wpAny (model T.prog T.w) A (pyIter (.ref a)) Q NoE s := by
  cases src with
  | pairs ps =>
    obtain ⟨TI, TO, i1, i2, l1, l2, xs, ys, vs, us, e1, e2, rfl, D, hz, _⟩ := x
    exact wpAny_pyIter_zip hz h
  | val v =>
    cases v with
    | list xs =>
      obtain ⟨l, r, rfl, it⟩ := x
      exact wpAny_pyIter_listiter it h
    | tuple xs =>
      obtain ⟨l, r, rfl, it⟩ := x
      exact wpAny_pyIter_tupleiter it h
    | loc l =>
      obtain ⟨hl, rfl, it⟩ := x
      exact wpAny_pyIter_listiter it h
    | str y =>
      obtain ⟨ty, t, rfl | rfl, rfl, it⟩ := x
      · exact wpAny_pyIter_striter_ascii it h
      · exact wpAny_pyIter_striter_wide it h
    | range y z =>
      obtain ⟨rfl, h1, h2⟩ := x
      exact wpAny_pyIter_rangeiter h2 h
    | _ => exact x.elim
/-- what one turn of an iterator gives -/
def NextP (T : Tp) (A : Around) (s : Shared) (κ : Addr → Col) (γ : Nat → Addr) (n : Nat) (O : List Addr) (i : Nat) (a : Addr) (src : Src) (t : Expr) (x : Option AV) (r : Option Value) (s₁ : Shared) : Prop :=
  match x with
  | none => r = none ∧ Moved O s κ s₁ κ
  | some x => ∃ v κ₁, r = some v ∧ wpAny (model T.prog T.w) A (letOwnedTupleGo t (.ref a) v) (fun _ s₂ => Moved O s κ s₂ κ₁ ∧ Tmps s₂.heap κ₁ O ∧ ItOk T s₂.heap κ₁ γ n O (i + 1) a src ∧ Rep T s₂.heap κ₁ γ n x v) NoE s₁
theorem next_one {A : Around} {i : Nat} {a : Addr} {src : Src} {t : Expr} {x : AV} {v : Value} {h' : Heap} {tk : Nat} {o : Obj} {nm : String} (hO : Tmps s.heap κ [a]) (hs : Heap.SameBut a s.heap h') (ho : h'.get? a = some o) (hc : o.cls = .type nm)
    (hn : ["enumerate", "zip", "dict_itemiterator", "dict_reverseitemiterator", "odict_iterator", "itertools.zip_longest", "itertools.pairwise"].contains nm = false)
    (it : ItOk T h' κ γ n [a] (i + 1) a src) (r : Rep T s.heap κ γ n x v) : NextP T A s κ γ n [a] i a src t (some x) (some v) { s with heap := h', toks := tk } := by
  have M : Moved [a] s κ { s with heap := h', toks := tk } κ := .same hs (by simp)
  refine ⟨v, κ, rfl, letGo_plain (s := { s with heap := h', toks := tk }) ho hc hn ⟨M, fun b hb => ⟨(hO b hb).1, ?_⟩, it, r.lasts (M.lasts hO)⟩⟩
  rw [List.mem_singleton.mp hb]
  show (h'.get? a).isSome
  rw [ho]; rfl
theorem next_ok {A : Around} (hh : A.handled = none) (I : Inv T s κ γ σ) {i : Nat} {a : Addr} {src : Src} {t : Expr} {xs : List AV} (it : ItOk T s.heap κ γ σ.nx O i a src) (hO : Tmps s.heap κ O) (hx : src.items σ = some xs) (hf : src.fits t = true) :
    wpAny (model T.prog T.w) A (pyNext (.ref a)) (NextP T A s κ γ σ.nx O i a src t xs[i]?) NoE s := by
  cases src with
  | pairs ps =>
    obtain ⟨TI, TO, i1, i2, l1, l2, us, ws, vs, zs, e1, e2, rfl, D, hz, hTI, ⟨p, q, hTO⟩, h1, h2, c1, c2, g1, g2, r1, r2, rfl⟩ := it
    simp only [Src.items, Option.some.injEq] at hx
    subst hx
    have hD : ∀ c, c ≠ a → c ≠ TO → c ≠ i1 → c ≠ i2 → c ∈ [a, TI, TO, i1, i2] → c = TI := fun c q1 q2 q3 q4 q5 => by
      simp only [List.mem_cons, List.not_mem_nil, or_false] at q5
      rcases q5 with rfl | rfl | rfl | rfl | rfl <;> first | rfl | exact absurd rfl ‹_›
    rw [zipA_get]
    cases hx1 : us[i]? with
    | none =>
      refine wpAny_pyNext_zip_end hh D hz hTI hTO h1 h2 (lobj_list g1) (lobj_list g2) (.inl ?_) fun h' hk => ⟨rfl, ?_, fun _ _ => rfl, rfl, rfl⟩
      · simpa using r1.get_none hx1
      · intro b o hb e
        simp only [List.mem_cons, List.not_mem_nil, or_false, not_or] at hb
        exact hk b o hb.1 hb.2.2.1 hb.2.2.2.1 hb.2.2.2.2 e
    | some x1 =>
      cases hx2 : ws[i]? with
      | none =>
        refine wpAny_pyNext_zip_end hh D hz hTI hTO h1 h2 (lobj_list g1) (lobj_list g2) (.inr ?_) fun h' hk => ⟨rfl, ?_, fun _ _ => rfl, rfl, rfl⟩
        · simpa using r2.get_none hx2
        · intro b o hb e
          simp only [List.mem_cons, List.not_mem_nil, or_false, not_or] at hb
          exact hk b o hb.1 hb.2.2.1 hb.2.2.2.1 hb.2.2.2.2 e
      | some x2 =>
        obtain ⟨v1, hv1, rv1⟩ := r1.get hx1
        obtain ⟨v2, hv2, rv2⟩ := r2.get hx2
        refine wpAny_pyNext_zip_item D hz hTI hTO h1 h2 (lobj_list g1) (lobj_list g2) (x := v1) (y := v2) (by simpa using hv1) (by simpa using hv2) fun h' a1 a2 a3 a4 a5 a6 hk => ?_
        cases t with
        | Tuple ts j tp =>
          refine ⟨.ref s.heap.objs.size, upc κ s.heap.objs.size .fz, rfl, wpAny_letOwnedTupleGo_zip a1 fun h'' hz'' hs'' => ?_⟩
          have hTne : s.heap.objs.size ≠ a := fun q => ne_size hz q.symm
          have hk' : ∀ c o, c ≠ a → c ≠ TO → c ≠ i1 → c ≠ i2 → s.heap.get? c = some o → h''.get? c = some o := fun c o q1 q2 q3 q4 e => (hs''.2 c q1).trans (hk c o q1 q2 q3 q4 e)
          have M : Moved [a, TI, TO, i1, i2] s κ { s with heap := h'' } (upc κ s.heap.objs.size .fz) := ⟨fun b o hb e => by
            simp only [List.mem_cons, List.not_mem_nil, or_false, not_or] at hb
            exact hk' b o hb.1 hb.2.2.1 hb.2.2.2.1 hb.2.2.2.2 e, upc_size _, rfl, rfl⟩
          have L := M.lasts hO (γ := γ) (n := σ.nx)
          have gTI : IsPair h'' TI (.ref i1) (.ref i2) := hk' TI _ D.TIz D.TITO D.TIi1 D.TIi2 hTI
          have gTO : IsPair h'' TO v1 v2 := (hs''.2 TO D.TOz).trans a2
          have j1 := a3.extBut hs''.extBut D.i1z
          have j2 := a4.extBut hs''.extBut D.i2z
          refine ⟨M, fun b hb => ⟨by rw [upc_ne (ne_size' (hO b hb).2)]; exact (hO b hb).1, ?_⟩, ?_, ?_⟩
          · simp only [List.mem_cons, List.not_mem_nil, or_false] at hb
            rcases hb with rfl | rfl | rfl | rfl | rfl
            · show (h''.get? _).isSome; rw [hz'']; rfl
            · show (h''.get? _).isSome; rw [gTI]; rfl
            · show (h''.get? _).isSome; rw [gTO]; rfl
            · obtain ⟨o, ho, _⟩ := j1; show (h''.get? _).isSome; rw [ho]; rfl
            · obtain ⟨o, ho, _⟩ := j2; show (h''.get? _).isSome; rw [ho]; rfl
          · exact ⟨TI, TO, i1, i2, l1, l2, us, ws, vs, zs, e1, e2, rfl, D, hz'', gTI, ⟨_, _, gTO⟩, j1, j2, (L.fz _ _ g1 c1).2, (L.fz _ _ g2 c2).2, (L.fz _ _ g1 c1).1, (L.fz _ _ g2 c2).1, r1.lasts L, r2.lasts L, rfl⟩
          · exact ⟨_, [v1, v2], 0, rfl, upc_self, (hs''.2 _ hTne).trans a5, by simp, ⟨v1, [v2], rfl, rv1.lasts L, .one (rv2.lasts L)⟩⟩
        | _ => simp [Src.fits] at hf
  | val v =>
    simp only [Src.items] at hx
    cases v with
    | list ys =>
      simp only [items?, Option.some.injEq] at hx
      subst hx
      obtain ⟨l, r, rfl, it⟩ := it
      have r0 := r
      obtain ⟨b, vs, ep, e0, c, g, _, q⟩ := r
      injection e0 with e0; subst e0
      have hne : l ≠ a := by rintro rfl; rw [(hO _ (by simp)).1] at c; cases c
      cases hxi : ys[i]? with
      | none => exact wpAny_pyNext_list_end hh it (lobj_list g) (by simpa using q.get_none hxi) fun h' he => ⟨rfl, .ext he (by simp)⟩
      | some x =>
        obtain ⟨v, hv, rv⟩ := q.get hxi
        refine wpAny_pyNext_list_item it (lobj_list g) (x := v) (by simpa using hv) fun h' it' hs' => ?_
        have it'' := it'
        obtain ⟨o, ho, hc, _⟩ := it'
        have M : Moved [a] s κ { s with heap := h', toks := s.toks } κ := .same hs' (by simp)
        exact next_one hO hs' ho hc (by decide) ⟨l, r0.lasts (M.lasts hO), rfl, it''⟩ rv
    | tuple ys =>
      simp only [items?, Option.some.injEq] at hx
      subst hx
      obtain ⟨l, r, rfl, it⟩ := it
      have r0 := r
      obtain ⟨b, vs, ep, e0, c, g, _, q⟩ := r
      injection e0 with e0; subst e0
      cases hxi : ys[i]? with
      | none => exact wpAny_pyNext_tuple_end hh it ⟨_, g, rfl, ep, rfl⟩ (by simpa using q.get_none hxi) fun h' he => ⟨rfl, .ext he (by simp)⟩
      | some x =>
        obtain ⟨v, hv, rv⟩ := q.get hxi
        refine wpAny_pyNext_tuple_item it ⟨_, g, rfl, ep, rfl⟩ (x := v) (by simpa using hv) fun h' it' hs' => ?_
        have it'' := it'
        obtain ⟨o, ho, hc, _⟩ := it'
        have M : Moved [a] s κ { s with heap := h', toks := s.toks } κ := .same hs' (by simp)
        exact next_one hO hs' ho hc (by decide) ⟨l, r0.lasts (M.lasts hO), rfl, it''⟩ rv
    | loc l =>
      obtain ⟨hl, rfl, it⟩ := it
      simp only [items?] at hx
      split at hx
      · rename_i ys hg
        simp only [Option.some.injEq] at hx
        subst hx
        obtain ⟨_, vs, ep, c, g, b, q⟩ := I.objs _ _ hg
        cases hxi : ys[i]? with
        | none => exact wpAny_pyNext_list_end hh it (lobj_list g) (by simpa using q.get_none hxi) fun h' he => ⟨rfl, .ext he (by simp)⟩
        | some x =>
          obtain ⟨v, hv, rv⟩ := q.get hxi
          refine wpAny_pyNext_list_item it (lobj_list g) (x := v) (by simpa using hv) fun h' it' hs' => ?_
          have it'' := it'
          obtain ⟨o, ho, hc, _⟩ := it'
          exact next_one hO hs' ho hc (by decide) ⟨hl, rfl, it''⟩ rv
      · cases hx
    | str y =>
      simp only [items?, Option.some.injEq] at hx
      subst hx
      obtain ⟨ty, t', hty, rfl, it⟩ := it
      rw [List.getElem?_map, Array.getElem?_toList]
      rcases hty with rfl | rfl
      · cases hxi : y.cps[i]? with
        | none => exact wpAny_pyNext_ascii_end hh it hxi fun h' he => ⟨rfl, .ext he (by simp)⟩
        | some ch =>
          refine wpAny_pyNext_ascii_item it hxi fun h' it' hs' => ?_
          have it'' := it'
          obtain ⟨o, ho, hc, _⟩ := it'
          exact next_one hO hs' ho hc (by decide) ⟨_, t', .inl rfl, rfl, it''⟩ ⟨_, rfl⟩
      · cases hxi : y.cps[i]? with
        | none => exact wpAny_pyNext_wide_end hh it hxi fun h' he => ⟨rfl, .ext he (by simp)⟩
        | some ch =>
          refine wpAny_pyNext_wide_item it hxi fun h' it' hs' => ?_
          have it'' := it'
          obtain ⟨o, ho, hc, _⟩ := it'
          exact next_one hO hs' ho hc (by decide) ⟨_, t', .inr rfl, rfl, it''⟩ ⟨_, rfl⟩
    | range y z =>
      simp only [items?, Option.some.injEq] at hx
      subst hx
      obtain ⟨rfl, hle, it⟩ := it
      rw [List.getElem?_map]
      by_cases hi : i < (z - y).toNat
      · rw [List.getElem?_range hi]
        refine wpAny_pyNext_range_item it (by omega) fun h' it' hs' => ?_
        have it2 : IsRangeIter h' a (y + ((i + 1 : Nat) : Int)) ((z - y).toNat - ((i + 1 : Nat) : Int)) 1 := by
          have e1 : y + ((i + 1 : Nat) : Int) = y + i + 1 := by omega
          have e2 : ((z - y).toNat : Int) - ((i + 1 : Nat) : Int) = (z - y).toNat - i - 1 := by omega
          rw [e1, e2]; exact it'
        exact next_one hO hs' it' rfl (by decide) ⟨rfl, by omega, it2⟩ ⟨_, rfl⟩
      · have hn : (List.range (z - y).toNat)[i]? = none := List.getElem?_eq_none (by simpa using hi)
        rw [hn]
        exact wpAny_pyNext_range_end hh it (by omega) fun h' he => ⟨rfl, .ext he (by simp)⟩
    | _ => exact it.elim
end
end Mine
namespace Mine
open PySem
/-- a statement's end, or that of an assignment -/
def StP (T : Tp) (W : Addr → Prop) (env : Env) (sc : Scope) (s : Shared) (κ : Addr → Col) (γ : Nat → Addr) (n : Nat) (m' : Fm) (σ' : Sto) (s' : Shared) : Prop :=
  ∃ κ' γ', Step (Ps W) s κ γ n s' κ' γ' σ'.nx ∧ Inv T s' κ' γ' σ' ∧ FrOk T env sc m' s'.heap κ' γ' σ'.nx
section
variable {T : Tp} {A : Around} {W : Addr → Prop} {env : Env} {sc : Scope} {m m' : Fm} {s s' s'' : Shared} {κ κ' : Addr → Col} {γ γ' : Nat → Addr} {σ σ' : Sto} {n n' : Nat}
theorem StP.then (S : Step (Ps W) s κ γ n s' κ' γ' n') (h : StP T W env sc s' κ' γ' n' m' σ' s'') : StP T W env sc s κ γ n m' σ' s'' := by
  obtain ⟨a, b, c, d⟩ := h
  exact ⟨a, b, S.ts c, d⟩
theorem Step.more {W' : Addr → Prop} (S : Step (Ps W) s κ γ n s' κ' γ' n') (h : ∀ a, W a → W' a) : Step (Ps W') s κ γ n s' κ' γ' n' := S.mono fun a c x => x.elim .inl fun y => .inr ⟨h a y.1, y.2⟩
theorem setv_may {x : Str} {v : AV} (e : setv sc m x v = some m') : mayBind sc x ∧ m' = m.set x v := by
  unfold setv at e
  split at e
  · rename_i h; simp at e; exact ⟨.inl h, e.symm⟩
  · rename_i h; simp at e; exact ⟨.inr h, e.symm⟩
  · cases e
theorem assignName_ok (hW : ∀ a, Owns env sc a → W a) (I : Inv T s κ γ σ) (F : FrOk T env sc m s.heap κ γ σ.nx) {x : Str} {p : Pos} {v : AV} {u : Value} (r : Rep T s.heap κ γ σ.nx v u) (e : setv sc m x v = some m') :
    wpAny (model T.prog T.w) A (assign (.Name x p) env u) (fun _ s' => Step (Ps W) s κ γ σ.nx s' κ γ σ.nx ∧ Inv T s' κ γ σ ∧ FrOk T env sc m' s'.heap κ γ σ.nx) NoE s := by
  obtain ⟨h1, rfl⟩ := setv_may e
  exact wpAny_assign_Name (bind_ok I F h1 r fun s' S I' F' => ⟨S.more hW, I', F'⟩)
theorem bindNames_ok (hW : ∀ a, Owns env sc a → W a) : ∀ {ts : List Expr} {vs : List AV} {us : List Value} {m m' : Fm} {s : Shared}, Inv T s κ γ σ → FrOk T env sc m s.heap κ γ σ.nx → RepL T s.heap κ γ σ.nx vs us → bindNames sc ts vs m = some m' →
    wpAny (model T.prog T.w) A (assignInOrder ((assignEach ts env).map (·.2)) us) (fun _ s' => Step (Ps W) s κ γ σ.nx s' κ γ σ.nx ∧ Inv T s' κ γ σ ∧ FrOk T env sc m' s'.heap κ γ σ.nx) NoE s
  | [], vs, us, m, m', s, I, F, r, e => by
    cases vs with
    | nil =>
      simp [bindNames] at e
      subst e
      exact PyProof.Rows.assignInOrder_nil ⟨.refl, I, F⟩
    | cons v vs => simp [bindNames] at e
  | t :: ts, vs, us, m, m', s, I, F, r, e => by
    cases t with
    | Name x p =>
      cases vs with
      | nil => simp [bindNames] at e
      | cons v vs =>
        simp only [bindNames, Option.bind_eq_some_iff] at e
        obtain ⟨m1, h1, h2⟩ := e
        obtain ⟨u, us, rfl, r1, r2⟩ := r
        refine PyProof.Rows.assignInOrder_cons (wpAny_mono (assignName_ok hW I F r1 h1) (fun _ s₁ q => ?_) fun _ _ z => z)
        obtain ⟨S1, I1, F1⟩ := q
        exact wpAny_mono (bindNames_ok hW I1 F1 (r2.steps S1) h2) (fun _ s₂ q => ⟨S1.ts q.1, q.2⟩) fun _ _ z => z
    | _ => cases vs <;> simp [bindNames] at e
theorem bindNames_shape : ∀ {ts : List Expr} {vs : List AV} {m m' : Fm}, bindNames sc ts vs m = some m' → (assignEach ts env).length = vs.length ∧ (assignEach ts env).findIdx? (·.1) = none
  | [], vs, m, m', e => by
    cases vs with
    | nil => exact ⟨rfl, rfl⟩
    | cons v vs => simp [bindNames] at e
  | t :: ts, vs, m, m', e => by
    cases t with
    | Name x p =>
      cases vs with
      | nil => simp [bindNames] at e
      | cons v vs =>
        simp only [bindNames, Option.bind_eq_some_iff] at e
        obtain ⟨m1, h1, h2⟩ := e
        obtain ⟨a, b⟩ := bindNames_shape h2
        refine ⟨by simp [assignEach, a], ?_⟩
        show List.findIdx? (·.1) ((false, assign (.Name x p) env) :: assignEach ts env) = none
        rw [List.findIdx?_cons, b]; rfl
    | _ => cases vs <;> simp [bindNames] at e
/-- a target takes a value -/
theorem bindT_ok (hh : A.handled = none) (hW : ∀ a, Owns env sc a → W a) (I : Inv T s κ γ σ) (F : FrOk T env sc m s.heap κ γ σ.nx) {t : Expr} {v : AV} {u : Value} (r : Rep T s.heap κ γ σ.nx v u) (e : bindT sc t v m = some m') :
    wpAny (model T.prog T.w) A (assign t env u) (fun _ s' => Step (Ps W) s κ γ σ.nx s' κ γ σ.nx ∧ Inv T s' κ γ σ ∧ FrOk T env sc m' s'.heap κ γ σ.nx) NoE s := by
  cases t with
  | Name x p => exact assignName_ok hW I F r e
  | Tuple ts j p =>
    simp only [bindT] at e
    split at e
    · rename_i vs
      obtain ⟨a, us, ep, rfl, c, g, b, q⟩ := r
      obtain ⟨h1, h2⟩ := bindNames_shape (env := env) e
      refine wpAny_assign_Tuple hh ⟨_, g, rfl, ep, rfl⟩ (by rw [h1, ← q.length]; simp) h2 fun h' hext => ?_
      have hk : ∀ b o, s.heap.get? b = some o → h'.get? b = some o := fun b o e => hext b o (ne_size e) e
      have S : Step (Ps W) s κ γ σ.nx { s with heap := h' } κ γ σ.nx := .keeps hk (fun _ _ => rfl) (tk := s.toks)
      have I' : Inv T { s with heap := h' } κ γ σ := I.keeps hk (fun _ _ => rfl) (tk := s.toks)
      have L : Lasts s.heap κ γ σ.nx h' κ γ σ.nx := .keeps hk fun _ _ => rfl
      have F' : FrOk T env sc m h' κ γ σ.nx := F.keeps L fun a o L e q => ⟨hk _ _ e, q⟩
      have := bindNames_ok (A := A) hW (s := { s with heap := h' }) I' F' (q.lasts L) e
      exact wpAny_mono this (fun _ s₂ q => ⟨S.ts q.1, q.2⟩) fun _ _ z => z
    · cases e
  | _ => simp [bindT] at e
/-- less may be known -/
theorem FrOk.weak {h : Heap} (F : FrOk T env sc m' h κ γ n) (hm : ∀ x v, m x = some v → m' x = some v) : FrOk T env sc m h κ γ n :=
  ⟨F.kind, F.glo, F.bui, F.cls, F.col, let ⟨mL, N, q⟩ := F.ns; ⟨mL, N, fun x v e k => q x v (hm x v e) k⟩, fun x v e k => F.cel x v (hm x v e) k, F.own, F.inj, F.ownk, F.fre⟩
theorem names_fresh : ∀ {ts : List Expr} {vs : List AV} {m₀ m m' : Fm}, bindNames sc ts vs m = some m' → (ts.all fun
    | .Name x _ => (m₀ x).isNone
    | _ => false) = true → (∀ x v, m₀ x = some v → m x = some v) → ∀ x v, m₀ x = some v → m' x = some v
  | [], vs, m₀, m, m', e, hf, hm => by
    cases vs with
    | nil => simp [bindNames] at e; subst e; exact hm
    | cons v vs => simp [bindNames] at e
  | t :: ts, vs, m₀, m, m', e, hf, hm => by
    cases t with
    | Name x p =>
      cases vs with
      | nil => simp [bindNames] at e
      | cons v vs =>
        simp only [bindNames, Option.bind_eq_some_iff] at e
        obtain ⟨m1, h1, h2⟩ := e
        obtain ⟨_, rfl⟩ := setv_may h1
        simp only [List.all_cons, Bool.and_eq_true] at hf
        refine names_fresh h2 hf.2 fun y w hy => ?_
        unfold Fm.set
        by_cases q : y = x
        · subst q
          rw [hy] at hf
          simp at hf
        · rw [if_neg q]; exact hm y w hy
    | _ => cases vs <;> simp [bindNames] at e
theorem fresh_keeps {t : Expr} {v : AV} (e : bindT sc t v m = some m') (hf : freshT m t = true) : ∀ x w, m x = some w → m' x = some w := by
  cases t with
  | Name x p =>
    obtain ⟨_, rfl⟩ := setv_may (show setv sc m x v = some m' from e)
    intro y w hy
    unfold Fm.set
    by_cases q : y = x
    · subst q
      simp [freshT, hy] at hf
    · rw [if_neg q]; exact hy
  | Tuple ts j p =>
    simp only [bindT] at e
    split at e
    · exact names_fresh e hf fun _ _ h => h
    · cases e
  | _ => simp [bindT] at e
end
end Mine
namespace Mine
open PySem
/-- a comprehension's end of one turn: what is laid into the result -/
def EmitW (M : Model) (A : Around) (acc : Value) (env : Env) (Q : Shared → Prop) (s : Shared) : Expr → Prop
  | .ListComp elt _ _ _ => wpAny M A (eval elt env) (fun x s₁ => wpAny M A (call (.builtin "list.append") [acc, x]) (fun _ s₂ => Q s₂) NoE s₁) NoE s
  | .SetComp elt _ _ _ => wpAny M A (eval elt env) (fun x s₁ => wpAny M A (call (.builtin "set.add") [acc, x]) (fun _ s₂ => Q s₂) NoE s₁) NoE s
  | .DictComp k v _ _ _ => ∃ D, acc = .ref D ∧ wpAny M A (eval k env) (fun x s₁ => wpAny M A (eval v env) (fun y s₂ => wpAny M A (dictSet D x y) (fun _ s₃ => Q s₃) NoE s₂) NoE s₁) NoE s
  | _ => False
/-- the next clause, or the end of the turn -/
def WorkW (M : Model) (A : Around) (e : Expr) (d : Nat) (acc : Value) (env : Env) (Q : Shared → Prop) (s : Shared) : Prop :=
  match (clausesOf e)[d + 1]? with
  | some g => g.is_async = 0 ∧ wpAny M A (eval g.iter env) (fun x s₁ => foldedSetIterable g.iter env x = pure x ∧
      wpAny M A (pyIter x) (fun it s₂ => codeAny M A (.compStart e (d + 1) it acc env) (fun r s₃ => match r with | .ok _ => Q s₃ | .error _ => False) s₂) NoE s₁) NoE s
  | none => EmitW M A acc env Q s e
/-- the tests of a clause -/
def testsOf (ifs : List Expr) (env : Env) : Sem Bool := forIn ifs true fun c r => if r = true then do let ok ← isTrue c env (eval c env); pure (ForInStep.yield ok) else pure (ForInStep.yield r)
section
variable {prog : Program} {w : World} {A : Around} {e : Expr} {d : Nat} {it acc : Value} {env : Env} {s : Shared} {t iter : Expr} {ifs : List Expr}
theorem turn_wp (he : isComp e = true) (hg : (clausesOf e)[d]? = some ⟨t, iter, ifs, 0⟩) {Q : Fin → Shared → Prop}
    (h : wpAny (model prog w) A (pyNext it) (fun r s₁ => match r with
      | none => Q (.done .next) s₁
      | some v => wpAny (model prog w) A (letOwnedTupleGo t it v) (fun _ s₂ => wpAny (model prog w) A (assign t env v) (fun _ s₃ => wpAny (model prog w) A (testsOf ifs env) (fun ok s₄ =>
          if ok = true then WorkW (model prog w) A e d acc env (Q (.again (.compLoop e d it acc env))) s₄ else Q (.again (.compLoop e d it acc env)) s₄) NoE s₃) NoE s₂) NoE s₁) NoE s) :
    wpAny (model prog w) A (compTurn e d it acc env) Q NoE s := by
  cases e with
  | ListComp elt gens sc p =>
    have hg' : gens[d]? = some ⟨t, iter, ifs, 0⟩ := hg
    unfold compTurn
    simp only [hg']
    refine wpAny_bind (wpAny_standAt (wpAny_bind (wpAny_mono h (fun r s₁ h₁ => ?_) fun _ _ z => z)))
    cases r with
    | none => exact wpAny_pure h₁
    | some v =>
      refine wpAny_bind (wpAny_mono h₁ (fun _ s₂ h₂ => wpAny_bind (wpAny_mono h₂ (fun _ s₃ h₃ => wpAny_bind (wpAny_mono h₃ (fun ok s₄ h₄ => ?_) fun _ _ z => z)) fun _ _ z => z)) fun _ _ z => z)
      cases ok with
      | false => exact wpAny_pure h₄
      | true =>
        simp only [if_true] at h₄ ⊢
        unfold WorkW at h₄
        have ec : (clausesOf (.ListComp elt gens sc p))[d + 1]? = gens[d + 1]? := rfl
        rw [ec] at h₄
        cases hn : gens[d + 1]? with
        | none =>
          rw [hn] at h₄
          simp only at h₄ ⊢
          exact wpAny_bind (wpAny_bind (wpAny_mono h₄ (fun x s₅ h₅ => wpAny_bind (wpAny_mono h₅ (fun _ s₆ h₆ => wpAny_pure (wpAny_pure h₆)) fun _ _ z => z)) fun _ _ z => z))
        | some g =>
          rw [hn] at h₄
          simp only at h₄ ⊢
          obtain ⟨ha, h₄⟩ := h₄
          simp only [ha]
          refine wpAny_bind (wpAny_mono h₄ (fun x s₅ h₅ => wpAny_bind (wpAny_standAt ?_)) fun _ _ z => z)
          obtain ⟨hf, h₅⟩ := h₅
          refine wpAny_bind (wpAny_of_eq hf (wpAny_bind (wpAny_holding (wpAny_mono h₅ (fun it' s₆ h₆ => ?_) fun _ _ z => z))))
          exact wpAny_bind (wpAny_runOwn (codeAny_mono h₆ fun r s₇ h₇ => by
            cases r with
            | ok f => exact wpAny_pure h₇
            | error x => exact h₇.elim))
  | SetComp elt gens sc p =>
    have hg' : gens[d]? = some ⟨t, iter, ifs, 0⟩ := hg
    unfold compTurn
    simp only [hg']
    refine wpAny_bind (wpAny_standAt (wpAny_bind (wpAny_mono h (fun r s₁ h₁ => ?_) fun _ _ z => z)))
    cases r with
    | none => exact wpAny_pure h₁
    | some v =>
      refine wpAny_bind (wpAny_mono h₁ (fun _ s₂ h₂ => wpAny_bind (wpAny_mono h₂ (fun _ s₃ h₃ => wpAny_bind (wpAny_mono h₃ (fun ok s₄ h₄ => ?_) fun _ _ z => z)) fun _ _ z => z)) fun _ _ z => z)
      cases ok with
      | false => exact wpAny_pure h₄
      | true =>
        simp only [if_true] at h₄ ⊢
        unfold WorkW at h₄
        have ec : (clausesOf (.SetComp elt gens sc p))[d + 1]? = gens[d + 1]? := rfl
        rw [ec] at h₄
        cases hn : gens[d + 1]? with
        | none =>
          rw [hn] at h₄
          simp only at h₄ ⊢
          exact wpAny_bind (wpAny_bind (wpAny_mono h₄ (fun x s₅ h₅ => wpAny_bind (wpAny_standAt (wpAny_bind (wpAny_mono h₅ (fun _ s₆ h₆ => wpAny_pure (wpAny_pure h₆)) fun _ _ z => z)))) fun _ _ z => z))
        | some g =>
          rw [hn] at h₄
          simp only at h₄ ⊢
          obtain ⟨ha, h₄⟩ := h₄
          simp only [ha]
          refine wpAny_bind (wpAny_mono h₄ (fun x s₅ h₅ => wpAny_bind (wpAny_standAt ?_)) fun _ _ z => z)
          obtain ⟨hf, h₅⟩ := h₅
          refine wpAny_bind (wpAny_of_eq hf (wpAny_bind (wpAny_holding (wpAny_mono h₅ (fun it' s₆ h₆ => ?_) fun _ _ z => z))))
          exact wpAny_bind (wpAny_runOwn (codeAny_mono h₆ fun r s₇ h₇ => by
            cases r with
            | ok f => exact wpAny_pure h₇
            | error x => exact h₇.elim))
  | DictComp k v gens sc p =>
    have hg' : gens[d]? = some ⟨t, iter, ifs, 0⟩ := hg
    unfold compTurn
    simp only [hg']
    refine wpAny_bind (wpAny_standAt (wpAny_bind (wpAny_mono h (fun r s₁ h₁ => ?_) fun _ _ z => z)))
    cases r with
    | none => exact wpAny_pure h₁
    | some v =>
      refine wpAny_bind (wpAny_mono h₁ (fun _ s₂ h₂ => wpAny_bind (wpAny_mono h₂ (fun _ s₃ h₃ => wpAny_bind (wpAny_mono h₃ (fun ok s₄ h₄ => ?_) fun _ _ z => z)) fun _ _ z => z)) fun _ _ z => z)
      cases ok with
      | false => exact wpAny_pure h₄
      | true =>
        simp only [if_true] at h₄ ⊢
        unfold WorkW at h₄
        rw [show (clausesOf (Expr.DictComp k _ gens sc p))[d + 1]? = gens[d + 1]? from rfl] at h₄
        cases hn : gens[d + 1]? with
        | none =>
          rw [hn] at h₄
          simp only at h₄ ⊢
          obtain ⟨D, rfl, h₄⟩ := h₄
          exact wpAny_bind (wpAny_bind (wpAny_mono h₄ (fun x s₅ h₅ => wpAny_bind (wpAny_holding (wpAny_mono h₅ (fun y s₆ h₆ => wpAny_bind (wpAny_standAt (wpAny_holding (wpAny_mono h₆ (fun _ s₇ h₇ => wpAny_pure h₇) fun _ _ z => z)))) fun _ _ z => z))) fun _ _ z => z))
        | some g =>
          rw [hn] at h₄
          simp only at h₄ ⊢
          obtain ⟨ha, h₄⟩ := h₄
          simp only [ha]
          refine wpAny_bind (wpAny_mono h₄ (fun x s₅ h₅ => wpAny_bind (wpAny_standAt ?_)) fun _ _ z => z)
          obtain ⟨hf, h₅⟩ := h₅
          refine wpAny_bind (wpAny_of_eq hf (wpAny_bind (wpAny_holding (wpAny_mono h₅ (fun it' s₆ h₆ => ?_) fun _ _ z => z))))
          exact wpAny_bind (wpAny_runOwn (codeAny_mono h₆ fun r s₇ h₇ => by
            cases r with
            | ok f => exact wpAny_pure h₇
            | error x => exact h₇.elim))
  | _ => simp [isComp] at he
/-- a comprehension's start: the iterator's own iterator, or none -/
theorem start_wp (he : isComp e = true) (hg : (clausesOf e)[d]? = some ⟨t, iter, ifs, 0⟩) {R : Result → Shared → Prop}
    (hi : wpAny (model prog w) A (pyIter it) (fun x s₁ => x = it ∧ s₁ = s) NoE s)
    (h : codeAny (model prog w) A (.compLoop e d it acc env) R s) : codeAny (model prog w) A (.compStart e d it acc env) R s := by
  have main : wpAny (model prog w) A (compStart e d it acc env) (fun fin s' => match fin with | .done f => R (.ok f) s' | .again c' => c'.quiet = true ∧ codeAny (model prog w) A c' R s') NoE s := by
    unfold compStart
    simp only [hg, Option.elim]
    show wpAny _ _ (ask >>= _) _ _ s
    refine wpAny_bind (wpAny_askSetting (wpAny_ite ?_))
    split
    · first
        | exact wpAny_pure (And.intro rfl h)
        | exact wpAny_bind (wpAny_pure (wpAny_pure (And.intro rfl h)))
    · refine wpAny_bind (wpAny_rule (wpAny_bind (wpAny_standAt (wpAny_bind (wpAny_mono hi (fun x s₁ q => ?_) fun _ _ z => z)))))
      obtain ⟨rfl, rfl⟩ := q
      exact wpAny_pure (And.intro rfl h)
  refine codeAny_of_tree ?_
  cases e with
  | ListComp elt gens sc p =>
    show wpAny _ A ((compStart (.ListComp elt gens sc p) d it acc env).onRaise (fun x => do noteFrame x env; standAt theWindowsPlace)) _ _ s
    exact wpAny_onRaise (wpAny_mono main (fun _ _ q => q) fun _ _ z => z.elim)
  | SetComp elt gens sc p =>
    show wpAny _ A ((compStart (.SetComp elt gens sc p) d it acc env).onRaise (fun x => do noteFrame x env; standAt theWindowsPlace)) _ _ s
    exact wpAny_onRaise (wpAny_mono main (fun _ _ q => q) fun _ _ z => z.elim)
  | DictComp k v gens sc p =>
    show wpAny _ A ((compStart (.DictComp k v gens sc p) d it acc env).onRaise (fun x => do noteFrame x env; standAt theWindowsPlace)) _ _ s
    exact wpAny_onRaise (wpAny_mono main (fun _ _ q => q) fun _ _ z => z.elim)
  | _ => simp [isComp] at he
/-- the turns -/
theorem loop_wp (he : isComp e = true) (hg : (clausesOf e)[d]? = some ⟨t, iter, ifs, 0⟩) {R : Result → Shared → Prop} (I : Nat → Shared → Prop)
    (turn : ∀ n s, I n s → wpAny (model prog w) A (pyNext it) (fun r s₁ => match r with
      | none => R (.ok .next) s₁
      | some v => wpAny (model prog w) A (letOwnedTupleGo t it v) (fun _ s₂ => wpAny (model prog w) A (assign t env v) (fun _ s₃ => wpAny (model prog w) A (testsOf ifs env) (fun ok s₄ =>
          if ok = true then WorkW (model prog w) A e d acc env (fun s' => ∃ m, m < n ∧ I m s') s₄ else ∃ m, m < n ∧ I m s₄) NoE s₃) NoE s₂) NoE s₁) NoE s)
    (n : Nat) (h : I n s) : codeAny (model prog w) A (.compLoop e d it acc env) R s := by
  have work : ∀ {Q Q' : Shared → Prop} {s : Shared}, (∀ s, Q s → Q' s) → WorkW (model prog w) A e d acc env Q s → WorkW (model prog w) A e d acc env Q' s := by
    intro Q Q' s hq hw
    unfold WorkW at hw ⊢
    split at hw
    · rename_i g hn
      exact ⟨hw.1, wpAny_mono hw.2 (fun x s₁ h₁ => ⟨h₁.1, wpAny_mono h₁.2 (fun it s₂ h₂ => codeAny_mono h₂ fun r s₃ h₃ => by cases r; exact h₃; exact hq _ h₃) fun _ _ z => z⟩) fun _ _ z => z⟩
    · cases e with
      | ListComp elt gens sc p => exact wpAny_mono hw (fun x s₁ h₁ => wpAny_mono h₁ (fun _ s₂ h₂ => hq _ h₂) fun _ _ z => z) fun _ _ z => z
      | SetComp elt gens sc p => exact wpAny_mono hw (fun x s₁ h₁ => wpAny_mono h₁ (fun _ s₂ h₂ => hq _ h₂) fun _ _ z => z) fun _ _ z => z
      | DictComp k v gens sc p =>
        obtain ⟨D, hD, hw⟩ := hw
        exact ⟨D, hD, wpAny_mono hw (fun x s₁ h₁ => wpAny_mono h₁ (fun _ s₂ h₂ => wpAny_mono h₂ (fun _ s₃ h₃ => hq _ h₃) fun _ _ z => z) fun _ _ z => z) fun _ _ z => z⟩
      | _ => simp [isComp] at he
  have main : ∀ n s, I n s → wpAny (model prog w) A (compTurn e d it acc env)
      (fun fin s' => match fin with | .done f => R (.ok f) s' | .again c' => c' = .compLoop e d it acc env ∧ ∃ m, m < n ∧ I m s') NoE s := by
    intro n s hI
    refine turn_wp he hg (wpAny_mono (turn n s hI) (fun r s₁ h₁ => ?_) fun _ _ z => z)
    cases r with
    | none => exact h₁
    | some v =>
      refine wpAny_mono h₁ (fun _ s₂ h₂ => wpAny_mono h₂ (fun _ s₃ h₃ => wpAny_mono h₃ (fun ok s₄ h₄ => ?_) fun _ _ z => z) fun _ _ z => z) fun _ _ z => z
      cases ok with
      | false => exact ⟨rfl, h₄⟩
      | true =>
        rw [if_pos rfl] at h₄ ⊢
        exact work (fun s' q => ⟨rfl, q⟩) h₄
  cases e with
  | ListComp elt gens sc p =>
    refine codeAny_loop rfl I (fun n s hI => ?_) n h
    show wpAny _ A ((compTurn (.ListComp elt gens sc p) d it acc env).onRaise (fun x => do noteFrame x env; theTreesLotGoes x)) _ _ s
    exact wpAny_onRaise (wpAny_mono (main n s hI) (fun _ _ q => q) fun _ _ z => z.elim)
  | SetComp elt gens sc p =>
    refine codeAny_loop rfl I (fun n s hI => ?_) n h
    show wpAny _ A ((compTurn (.SetComp elt gens sc p) d it acc env).onRaise (fun x => do noteFrame x env; theTreesLotGoes x)) _ _ s
    exact wpAny_onRaise (wpAny_mono (main n s hI) (fun _ _ q => q) fun _ _ z => z.elim)
  | DictComp k v gens sc p =>
    refine codeAny_loop rfl I (fun n s hI => ?_) n h
    show wpAny _ A ((compTurn (.DictComp k v gens sc p) d it acc env).onRaise (fun x => do noteFrame x env; theTreesLotGoes x)) _ _ s
    exact wpAny_onRaise (wpAny_mono (main n s hI) (fun _ _ q => q) fun _ _ z => z.elim)
  | _ => simp [isComp] at he
end
end Mine
namespace Mine
open PySem
def TrsOk (T : Tp) (c : Cfg) (Φ : Fns) (k : Nat) (es : List Expr) : Prop := ∀ (A : Around) (env : Env) (sc : Scope) (m : Fm) (s : Shared) (κ : Addr → Col) (γ : Nat → Addr) (σ : Sto) (b : Bool) (σ' : Sto),
  AOk A k → Inv T s κ γ σ → FrOk T env sc m s.heap κ γ σ.nx → trs c Φ es sc m σ = some (b, σ') → wpAny (model T.prog T.w) A (testsOf es env) (TrP T s κ γ σ.nx b σ') NoE s
section
variable {T : Tp} {c : Cfg} {Φ : Fns} {k : Nat} {A : Around} {env : Env} {sc : Scope} {m : Fm} {s : Shared} {κ : Addr → Col} {γ : Nat → Addr} {σ σ' : Sto}
theorem tests_false {M : Model} {E : Value → Shared → Prop} {Q : Bool → Shared → Prop} (h : Q false s) : ∀ es : List Expr,
    wpAny M A (forIn es false fun c r => if r = true then do let ok ← isTrue c env (eval c env); pure (ForInStep.yield ok) else pure (ForInStep.yield r)) Q E s
  | [] => by rw [List.forIn_nil]; exact wpAny_pure h
  | e :: es => by
    rw [List.forIn_cons]
    exact wpAny_bind (wpAny_pure (tests_false h es))
theorem trs_nil : TrsOk T c Φ k [] := by
  intro A env sc m s κ γ σ b σ' hA I F e
  simp [trs] at e
  obtain ⟨rfl, rfl⟩ := e
  exact wpAny_pure ⟨κ, γ, .refl, I, rfl⟩
theorem trs_cons {x : Expr} {xs : List Expr} (hx : TrOk T c Φ k x) (hs : TrsOk T c Φ k xs) : TrsOk T c Φ k (x :: xs) := by
  intro A env sc m s κ γ σ b σ' hA I F e
  simp only [trs, Option.bind_eq_some_iff] at e
  obtain ⟨⟨y, σ1⟩, h1, e⟩ := e
  unfold testsOf
  rw [List.forIn_cons]
  simp only [if_true]
  refine wpAny_bind (wpAny_bind (wpAny_mono (hx A env sc m s κ γ σ y σ1 hA I F h1) (fun a s₁ q => wpAny_pure ?_) fun _ _ z => z))
  obtain ⟨κ1, γ1, S1, I1, rfl⟩ := q
  cases a
  · simp at e
    obtain ⟨rfl, rfl⟩ := e
    exact tests_false ⟨κ1, γ1, S1, I1, rfl⟩ xs
  · simp only [if_true] at e
    exact wpAny_mono (hs A env sc m s₁ κ1 γ1 σ1 b σ' hA I1 (F.step S1) e) (fun _ _ z => TrP.then S1 z) fun _ _ z => z
end
/-- how the result in the making stands in the heap -/
structure AccRel (T : Tp) (D : Addr) (R : Heap → (Addr → Col) → (Nat → Addr) → Nat → Acc → Prop) : Prop where
  keep : ∀ {h κ γ n h' κ' γ' n' acc}, R h κ γ n acc → Lasts h κ γ n h' κ' γ' n' → (∀ o, h.get? D = some o → h'.get? D = some o) → R h' κ' γ' n' acc
  alive : ∀ {h κ γ n acc}, R h κ γ n acc → (h.get? D).isSome
/-- what stands after a part of a comprehension -/
def CompP (T : Tp) (D : Addr) (R : Heap → (Addr → Col) → (Nat → Addr) → Nat → Acc → Prop) (env : Env) (sc : Scope) (m : Fm) (s : Shared) (κ : Addr → Col) (γ : Nat → Addr) (n : Nat) (acc' : Acc) (σ' : Sto) (s' : Shared) : Prop :=
  ∃ κ' γ', Step (Ps fun a => a = D ∨ Owns env sc a) s κ γ n s' κ' γ' σ'.nx ∧ Inv T s' κ' γ' σ' ∧ FrOk T env sc m s'.heap κ' γ' σ'.nx ∧ κ' D = .tmp ∧ R s'.heap κ' γ' σ'.nx acc'
def RestOk (T : Tp) (k : Nat) (e : Expr) (csc : Scope) (D : Addr) (R : Heap → (Addr → Col) → (Nat → Addr) → Nat → Acc → Prop) (d : Nat) (rest : Fm → Acc → Sto → Option (Acc × Sto)) : Prop :=
  ∀ (A : Around) (env : Env) (m : Fm) (s : Shared) (κ : Addr → Col) (γ : Nat → Addr) (σ σ' : Sto) (acc acc' : Acc), AOk A k → Inv T s κ γ σ → FrOk T env csc m s.heap κ γ σ.nx → κ D = .tmp → R s.heap κ γ σ.nx acc → rest m acc σ = some (acc', σ') →
    ∀ Q : Shared → Prop, (∀ s', CompP T D R env csc m s κ γ σ.nx acc' σ' s' → Q s') → WorkW (model T.prog T.w) A e d (.ref D) env Q s
section
variable {T : Tp} {c : Cfg} {Φ : Fns} {k : Nat} {A : Around} {env : Env} {csc : Scope} {m : Fm} {s s₀ s' s'' : Shared} {κ κ₀ κ' κ'' : Addr → Col} {γ γ₀ γ' γ'' : Nat → Addr} {n₀ n n' n'' : Nat} {σ σ' : Sto} {D : Addr}
  {R : Heap → (Addr → Col) → (Nat → Addr) → Nat → Acc → Prop} {e : Expr} {d : Nat}
theorem Owns.col {h : Heap} (F : FrOk T env csc m h κ γ n) {a : Addr} (h : Owns env csc a) : ∃ L, κ a = .fr L := by
  rcases h with rfl | ⟨x, h1, h2⟩
  · exact ⟨_, F.col⟩
  · obtain ⟨b, u, h3, _, h4⟩ := F.own x h1
    rw [h2] at h3; injection h3 with h3; subst h3
    exact ⟨_, h4⟩
theorem AccRel.step (hR : AccRel T D R) {acc : Acc} (r : R s.heap κ γ n acc) (hD : κ D = .tmp) (S : Step Pe s κ γ n s' κ' γ' n') : R s'.heap κ' γ' n' acc ∧ κ' D = .tmp :=
  ⟨hR.keep r (S.lasts fun _ => pe_fz) fun o e => S.keep D o e (by rw [hD]; exact pe_tmp), by rw [S.col D (hR.alive r) (by rw [hD]; rfl), hD]⟩
theorem AccRel.moved {O : List Addr} (hR : AccRel T D R) {acc : Acc} (r : R s.heap κ γ n acc) (hD : κ D = .tmp) (hO : Tmps s.heap κ O) (hn : D ∉ O) (M : Moved O s κ s' κ') : R s'.heap κ' γ n acc ∧ κ' D = .tmp :=
  ⟨hR.keep r (M.lasts hO) fun o e => M.keep D o hn e, by rw [M.col D (hR.alive r), hD]⟩
theorem AccRel.frame (hR : AccRel T D R) {acc : Acc} (F : FrOk T env csc m s.heap κ γ n) (r : R s.heap κ γ n acc) (hD : κ D = .tmp) (S : Step (Ps (Owns env csc)) s κ γ n s' κ' γ' n') : R s'.heap κ' γ' n' acc ∧ κ' D = .tmp := by
  have hw : ¬ Owns env csc D := fun x => by obtain ⟨L, q⟩ := Owns.col F x; rw [hD] at q; cases q
  exact ⟨hR.keep r (S.lasts fun _ => ps_fz) fun o e => S.keep D o e (by rw [hD]; exact ps_tmp hw), by rw [S.col D (hR.alive r) (by rw [hD]; rfl), hD]⟩
/-- an iterator lasts -/
theorem ItOk.step {O : List Addr} {i : Nat} {a : Addr} {src : Src} (x : ItOk T s.heap κ γ n O i a src) (hO : Tmps s.heap κ O) (S : Step Pe s κ γ n s' κ' γ' n') : ItOk T s'.heap κ' γ' n' O i a src :=
  x.lasts (S.lasts fun _ => pe_fz) fun b hb o e => S.keep b o e (by rw [(hO b hb).1]; exact pe_tmp)
theorem ItOk.steps {W : Addr → Prop} {O : List Addr} {i : Nat} {a : Addr} {src : Src} (x : ItOk T s.heap κ γ n O i a src) (hO : Tmps s.heap κ O) (hW : ∀ b ∈ O, ¬ W b) (S : Step (Ps W) s κ γ n s' κ' γ' n') : ItOk T s'.heap κ' γ' n' O i a src :=
  x.lasts (S.lasts fun _ => ps_fz) fun b hb o e => S.keep b o e (by rw [(hO b hb).1]; exact ps_tmp (hW b hb))
/-- the turns of one clause -/
theorem comp_loop (he : isComp e = true) (hR : AccRel T D R) {t iter : Expr} {ifs : List Expr} (hg : (clausesOf e)[d]? = some ⟨t, iter, ifs, 0⟩) {rest : Fm → Acc → Sto → Option (Acc × Sto)} (hrest : RestOk T k e csc D R d rest) (hifs : TrsOk T c Φ k ifs)
    (hA : AOk A k) {src : Src} {O : List Addr} {a : Addr} {acc acc' : Acc} (S₀ : Step (Ps fun a => a = D ∨ Owns env csc a) s₀ κ₀ γ₀ n₀ s κ γ σ.nx) (hn : ∀ b ∈ O, s₀.heap.get? b = none) (I : Inv T s κ γ σ) (F : FrOk T env csc m s.heap κ γ σ.nx) (hD : κ D = .tmp) (hDO : D ∉ O)
    (r : R s.heap κ γ σ.nx acc) (it : ItOk T s.heap κ γ σ.nx O 0 a src) (hO : Tmps s.heap κ O) (ev : compA csc src t m (trs c Φ ifs csc) rest acc σ = some (acc', σ')) :
    codeAny (model T.prog T.w) A (.compStart e d (.ref a) (.ref D) env) (fun r s' => match r with | .ok _ => CompP T D R env csc m s₀ κ₀ γ₀ n₀ acc' σ' s' | .error _ => False) s := by
  unfold compA at ev
  split at ev
  · rename_i hc
    obtain ⟨hfit, hfr⟩ := hc
    simp only [Option.bind_eq_some_iff, Option.map_eq_some_iff] at ev
    obtain ⟨xs, hxs, ⟨fl, b'⟩, hit, e'⟩ := ev
    simp only at e'
    subst e'
    refine start_wp he hg (iter_self it ⟨rfl, rfl⟩) ?_
    refine loop_wp he hg (fun n s => ∃ κ γ σ acc i, Step (Ps fun a => a = D ∨ Owns env csc a) s₀ κ₀ γ₀ n₀ s κ γ σ.nx ∧ Inv T s κ γ σ ∧ FrOk T env csc m s.heap κ γ σ.nx ∧ κ D = .tmp ∧ R s.heap κ γ σ.nx acc ∧ ItOk T s.heap κ γ σ.nx O i a src ∧ Tmps s.heap κ O ∧
      iterA (fun b : Acc × Sto => src.items b.2) (fun v b => (bindT csc t v m).bind fun m' => (trs c Φ ifs csc m' b.2).bind fun r => if r.1 then (rest m' b.1 r.2).map fun b' => (.next, b') else some (.next, (b.1, r.2))) n i (acc, σ) = some (fl, (acc', σ')))
      ?_ xs.length ⟨κ, γ, σ, acc, 0, S₀, I, F, hD, r, it, hO, hit⟩
    rintro n s ⟨κ, γ, σ, acc, i, S, I, F, hD, r, it, hO, hrun⟩
    have fin : ∀ (s₁ : Shared) (κ₁ : Addr → Col), Moved O s κ s₁ κ₁ → some (fl, acc', σ') = some (Fl.next, acc, σ) → CompP T D R env csc m s₀ κ₀ γ₀ n₀ acc' σ' s₁ := fun s₁ κ₁ M q => by
      simp only [Option.some.injEq, Prod.mk.injEq] at q
      obtain ⟨_, rfl, rfl⟩ := q
      have r' := hR.moved r hD hO hDO M
      exact ⟨κ₁, γ, M.step S hn, M.inv hO I, M.fr hO F, r'.2, r'.1⟩
    have hOW : ∀ b ∈ O, ¬ (b = D ∨ Owns env csc b) := by
      rintro b hb (rfl | x)
      · exact hDO hb
      · obtain ⟨L, q⟩ := Owns.col F x; rw [(hO b hb).1] at q; cases q
    cases n with
    | zero =>
      simp only [iterA, Option.bind_eq_bind, Option.bind_eq_some_iff] at hrun
      obtain ⟨ys, hys, hrun⟩ := hrun
      split at hrun
      · rename_i hle
        refine wpAny_mono (next_ok hA.handled I it hO hys hfit) (fun r s₁ q => ?_) fun _ _ z => z
        rw [List.getElem?_eq_none hle] at q
        obtain ⟨rfl, M⟩ := q
        exact fin _ _ M hrun.symm
      · cases hrun
    | succ n =>
      simp only [iterA, Option.bind_eq_bind, Option.bind_eq_some_iff] at hrun
      obtain ⟨ys, hys, hrun⟩ := hrun
      refine wpAny_mono (next_ok hA.handled I it hO hys hfit) (fun rr s₁ q => ?_) fun _ _ z => z
      cases hx : ys[i]? with
      | none =>
        rw [hx] at q hrun
        obtain ⟨rfl, M⟩ := q
        exact fin _ _ M hrun.symm
      | some x =>
        rw [hx] at q hrun
        obtain ⟨v, κ₁, rfl, q⟩ := q
        simp only at hrun ⊢
        cases hb : bindT csc t x m with
        | none => simp [hb] at hrun
        | some m' =>
          cases hp : trs c Φ ifs csc m' σ with
          | none => simp [hb, hp] at hrun
          | some pr =>
            obtain ⟨ok, σ₁⟩ := pr
            simp only [hb, hp, Option.bind_some] at hrun
            refine wpAny_mono q (fun _ s₂ q => ?_) fun _ _ z => z
            obtain ⟨M, hO₂, it₂, rx⟩ := q
            have I₂ := M.inv hO I
            have F₂ := M.fr hO F
            have r₂ := hR.moved r hD hO hDO M
            have S₂ := M.step S hn
            refine wpAny_mono (bindT_ok (W := Owns env csc) hA.handled (fun _ h => h) I₂ F₂ rx hb) (fun _ s₃ q => ?_) fun _ _ z => z
            obtain ⟨S₃, I₃, F₃⟩ := q
            have r₃ := hR.frame F₂ r₂.1 r₂.2 S₃
            have hOw : ∀ b ∈ O, ¬ Owns env csc b := fun b hb x => hOW b hb (.inr x)
            have it₃ := it₂.steps hO₂ hOw S₃
            have hO₃ := S₃.tmps hO₂
            refine wpAny_mono (hifs A env csc m' s₃ κ₁ γ σ ok σ₁ hA I₃ F₃ hp) (fun b s₄ q => ?_) fun _ _ z => z
            obtain ⟨κ₄, γ₄, S₄, I₄, rfl⟩ := q
            have F₄ := F₃.step S₄
            have r₄ := hR.step r₃.1 r₃.2 S₄
            have it₄ := it₃.step hO₃ S₄
            have hO₄ := S₄.tmps hO₃
            have S₀₄ := (S₂.ts (S₃.more fun _ x => .inr x)).ts S₄.ps
            cases b with
            | false =>
              simp only [Bool.false_eq_true, if_false] at hrun ⊢
              exact ⟨n, Nat.lt_succ_self _, κ₄, γ₄, σ₁, acc, i + 1, S₀₄, I₄, F₄.weak (fresh_keeps hb hfr), r₄.2, r₄.1, it₄, hO₄, hrun⟩
            | true =>
              simp only [if_true] at hrun ⊢
              cases hr : rest m' acc σ₁ with
              | none => simp [hr] at hrun
              | some b2 =>
                obtain ⟨acc₂, σ₂⟩ := b2
                simp only [hr, Option.map_some] at hrun
                refine hrest A env m' s₄ κ₄ γ₄ σ₁ σ₂ acc acc₂ hA I₄ F₄ r₄.2 r₄.1 hr _ fun s₅ q => ?_
                obtain ⟨κ₅, γ₅, S₅, I₅, F₅, hD₅, r₅⟩ := q
                have hOW₄ : ∀ b ∈ O, ¬ (b = D ∨ Owns env csc b) := by
                  rintro b hb (rfl | x)
                  · exact hDO hb
                  · obtain ⟨L, q⟩ := Owns.col F₄ x; rw [(hO₄ b hb).1] at q; cases q
                exact ⟨n, Nat.lt_succ_self _, κ₅, γ₅, σ₂, acc₂, i + 1, S₀₄.ts S₅, I₅, F₅.weak (fresh_keeps hb hfr), hD₅, r₅, it₄.steps hO₄ hOW₄ S₅, S₅.tmps hO₄, hrun⟩
  · cases ev
/-- all clauses behind the first -/
theorem gens_ok (he : isComp e = true) (hR : AccRel T D R) {K : Fm → Acc → Sto → Option (Acc × Sto)}
    (hK : ∀ d, (clausesOf e)[d + 1]? = none → RestOk T k e csc D R d K) : ∀ (gs : List Comprehension) (d : Nat), (clausesOf e).drop (d + 1) = gs →
      (∀ g ∈ gs, EvOk T c Φ k g.iter ∧ TrsOk T c Φ k g.ifs) → RestOk T k e csc D R d (gens c Φ K gs csc)
  | [], d, hd, _ => by
    have hn : (clausesOf e)[d + 1]? = none := List.getElem?_eq_none (by simpa using hd)
    intro A env m s κ γ σ σ' acc acc' hA I F hD r ev Q hQ
    simp only [gens] at ev
    exact hK d hn A env m s κ γ σ σ' acc acc' hA I F hD r ev Q hQ
  | ⟨t, iter, ifs, a⟩ :: gs, d, hd, hg => by
    have hn : (clausesOf e)[d + 1]? = some ⟨t, iter, ifs, a⟩ := by
      have := List.getElem?_drop (xs := clausesOf e) (i := d + 1) (j := 0)
      rw [hd] at this
      simpa using this.symm
    have hd' : (clausesOf e).drop (d + 1 + 1) = gs := by
      rw [← List.drop_drop, hd]; rfl
    have ih := gens_ok he hR hK gs (d + 1) hd' fun g h => hg g (List.mem_cons_of_mem _ h)
    intro A env m s κ γ σ σ' acc acc' hA I F hD r ev Q hQ
    simp only [gens] at ev
    split at ev
    · rename_i ha
      subst ha
      simp only [Option.bind_eq_some_iff] at ev
      obtain ⟨⟨v, σ1⟩, h1, ev⟩ := ev
      unfold WorkW
      rw [hn]
      refine ⟨rfl, wpAny_mono ((hg _ List.mem_cons_self).1 A env csc m s κ γ σ v σ1 hA I F h1) (fun x s₁ q => ⟨folded_plain h1 env x, ?_⟩) fun _ _ z => z⟩
      obtain ⟨κ1, γ1, S1, I1, R1⟩ := q
      have r1 := hR.step r hD S1
      have hitems : ∃ xs, items? σ1 v = some xs := by
        have e2 := ev
        unfold compA at e2
        split at e2
        · simp only [Option.bind_eq_some_iff] at e2
          obtain ⟨xs, hxs, _⟩ := e2
          exact ⟨xs, hxs⟩
        · cases e2
      obtain ⟨xs, hxs⟩ := hitems
      refine iter_ok I1 R1 hxs fun o hnone S2 I2 hO2 it2 => ?_
      have r2 := hR.step r1.1 r1.2 S2
      have hDO : D ∉ [s₁.heap.objs.size] := by
        intro x
        have := hR.alive r1.1
        rw [List.mem_singleton.mp x, hnone] at this; cases this
      have := comp_loop (s₀ := s₁) (κ₀ := κ1) (γ₀ := γ1) (n₀ := σ1.nx) he hR hn ih (hg _ List.mem_cons_self).2 hA S2.ps (fun b hb => by rw [List.mem_singleton.mp hb]; exact hnone) I2 ((F.step S1).step S2) r2.2 hDO r2.1 it2 hO2 ev
      refine codeAny_mono this fun rr s₃ h₃ => ?_
      cases rr with
      | error x => exact h₃.elim
      | ok f =>
        obtain ⟨κ', γ', S', rest'⟩ := h₃
        exact hQ _ ⟨κ', γ', S1.ps.ts S', rest'⟩
    · cases ev
end
end Mine
namespace Mine
open PySem
/-- a list in the making -/
def AccL (T : Tp) (D : Addr) (h : Heap) (κ : Addr → Col) (γ : Nat → Addr) (n : Nat) (acc : Acc) : Prop := ∃ vs ep, h.get? D = some (lobj vs ep) ∧ acc.vs.length ≤ 2 ^ 20 ∧ RepL T h κ γ n acc.vs vs
/-- a dict in the making -/
def AccD (T : Tp) (D : Addr) (h : Heap) (κ : Addr → Col) (γ : Nat → Addr) (n : Nat) (acc : Acc) : Prop := ∃ us, DRep T h D acc.ks us ∧ RepL T h κ γ n acc.vs us
theorem accL_rel {T : Tp} {D : Addr} : AccRel T D (AccL T D) :=
  ⟨fun ⟨vs, ep, g, b, r⟩ L hk => ⟨vs, ep, hk _ g, b, r.lasts L⟩, fun ⟨vs, ep, g, _⟩ => by rw [g]; rfl⟩
theorem accD_rel {T : Tp} {D : Addr} : AccRel T D (AccD T D) :=
  ⟨fun ⟨us, g, r⟩ L hk => ⟨us, g.at hk, r.lasts L⟩, fun ⟨us, g, _⟩ => by obtain ⟨o, ho⟩ := g.some; rw [ho]; rfl⟩
section
variable {T : Tp} {c : Cfg} {Φ : Fns} {k : Nat} {A : Around} {env : Env} {csc : Scope} {m : Fm} {s s₀ s' s'' : Shared} {κ κ₀ κ' κ'' : Addr → Col} {γ γ₀ γ' γ'' : Nat → Addr} {n₀ n n' n'' : Nat} {σ σ' : Sto} {D : Addr}
theorem Step.one {W : Addr → Prop} {h' : Heap} {tk : Nat} {b : Addr} (hs : Heap.SameBut b s.heap h') (hw : W b) (hb : κ b = .tmp) (ha : (h'.get? b).isSome) : Step (Ps W) s κ γ n { s with heap := h', toks := tk } κ γ n :=
  ⟨fun a o e q => (hs.2 a (by rintro rfl; exact q (.inr ⟨hw, by rw [hb]; intro c; cases c⟩))).trans e, fun a e => by
    by_cases q : a = b
    · subst q; exact ha
    · show (h'.get? a).isSome; rw [hs.2 a q]; exact e, fun _ _ _ => rfl, fun _ _ => rfl, Nat.le_refl _, rfl, rfl⟩
theorem emitL_ok {elt : Expr} {gs : List Comprehension} {p : Pos} (hx : EvOk T c Φ k elt) {d : Nat} (hn : (clausesOf (.ListComp elt gs csc p))[d + 1]? = none) : RestOk T k (.ListComp elt gs csc p) csc D (AccL T D) d (emitL (ev c Φ elt csc)) := by
  intro A env m s κ γ σ σ' acc acc' hA I F hD r e Q hQ
  unfold emitL at e
  simp only [Option.bind_eq_some_iff] at e
  obtain ⟨⟨v, σ1⟩, h1, e⟩ := e
  split at e
  · rename_i hlen
    simp only [Option.some.injEq, Prod.mk.injEq] at e
    obtain ⟨rfl, rfl⟩ := e
    unfold WorkW
    rw [hn]
    refine wpAny_mono (hx A env csc m s κ γ σ v σ1 hA I F h1) (fun x s₁ q => ?_) fun _ _ z => z
    obtain ⟨κ1, γ1, S1, I1, R1⟩ := q
    have F1 := F.step S1
    obtain ⟨⟨vs, ep, g, b, rl⟩, hD1⟩ := accL_rel.step r hD S1
    have hq := rl.length
    refine call_meets PySem.F.slot_list_append ⟨_, g, rfl⟩ PySem.F.entry_list_append (PySem.F.args_list_append_2 _ _) (list_append D vs.toArray ep x (by simp only [List.size_toArray, sizeLine]; omega)) ⟨g, ?_⟩
    have hself := Heap.get?_update_self (Obj.mapSeq fun y => y.push x) g rfl
    have hs : Heap.SameBut D s₁.heap (s₁.heap.update D (Obj.mapSeq fun y => y.push x)) := Heap.SameBut.update ..
    have hO : Tmps s₁.heap κ1 [D] := fun b hb => by rw [List.mem_singleton.mp hb]; exact ⟨hD1, by rw [g]; rfl⟩
    have M : Moved [D] s₁ κ1 { s₁ with heap := s₁.heap.update D (Obj.mapSeq fun y => y.push x), toks := s₁.toks } κ1 := .same hs (by simp)
    refine hQ _ ⟨κ1, γ1, S1.ps.ts (.one hs (.inl rfl) hD1 (by rw [hself]; rfl) (tk := s₁.toks)), M.inv hO I1, M.fr hO F1, hD1, vs ++ [x], ep + 1, ?_, by simp; omega, (rl.lasts (M.lasts hO)).append (.one (R1.lasts (M.lasts hO)))⟩
    show (s₁.heap.update D _).get? D = _
    rw [hself]
    simp [lobj, Obj.mapSeq]
  · cases e
theorem stored_zip {K : Type} [DecidableEq K] (k : K) (v : Value) : ∀ (l : List K) (us : List Value), l.length = us.length →
    stored (l.zip us) k v = if k ∈ l then l.zip (repl k v l us) else (l ++ [k]).zip (us ++ [v]) := by
  intro l us hl
  have hany : (l.zip us).any (fun kv => kv.1 = k) = decide (k ∈ l) := by
    clear v
    induction l generalizing us with
    | nil => simp
    | cons x l ih =>
      cases us with
      | nil => cases hl
      | cons u us =>
        simp only [List.zip_cons_cons, List.any_cons, ih us (by simpa using hl), List.mem_cons]
        by_cases h : x = k
        · subst h; simp
        · have : ¬ k = x := fun q => h q.symm
          simp [h, this]
  unfold stored
  rw [hany]
  by_cases hk : k ∈ l
  · simp only [hk, decide_true, if_true]
    clear hany hk
    induction l generalizing us with
    | nil => simp
    | cons x l ih =>
      cases us with
      | nil => cases hl
      | cons u us =>
        simp only [List.zip_cons_cons, List.map_cons, repl, ih us (by simpa using hl)]
        by_cases h : x = k <;> simp [h]
  · simp only [hk, decide_false, Bool.false_eq_true, if_false]
    rw [List.zip_append hl]; rfl
theorem repl_length {K α : Type} [DecidableEq K] (k : K) (v : α) : ∀ (l : List K) (us : List α), (repl k v l us).length = us.length
  | [], us => by simp [repl]
  | x :: l, [] => by simp [repl]
  | x :: l, u :: us => by simp [repl, repl_length k v l us]
theorem RepL.repl {K : Type} [DecidableEq K] {h : Heap} (k : K) {x : AV} {v : Value} (r : Rep T h κ γ n x v) : ∀ (l : List K) {xs : List AV} {us : List Value}, RepL T h κ γ n xs us → RepL T h κ γ n (Mine.repl k x l xs) (Mine.repl k v l us)
  | [], xs, us, q => by simpa [Mine.repl] using q
  | y :: l, [], us, q => by rw [show us = [] from q]; rfl
  | y :: l, z :: xs, us, q => by
    obtain ⟨u, us, rfl, q1, q2⟩ := q
    simp only [Mine.repl]
    refine ⟨_, _, rfl, ?_, RepL.repl k r l q2⟩
    split
    · exact r
    · exact q1
/-- a store into a dict -/
theorem setKey_ok {s : Shared} {a : Addr} {ks ks' : Keys} {xs xs' : List AV} {us : List Value} {i w : AV} {vi vw : Value} (Dr : DRep T s.heap a ks us) (L : RepL T s.heap κ γ n xs us) (ri : Rep T s.heap κ γ n i vi) (rw' : Rep T s.heap κ γ n w vw)
    (e : setKey i w ks xs = some (ks', xs')) {Q : Unit → Shared → Prop}
    (hQ : ∀ h' us', DRep T h' a ks' us' → RepL T s.heap κ γ n xs' us' → Heap.SameBut a s.heap h' → Q () { s with heap := h', toks := s.toks + 1 }) : wpAny (model T.prog T.w) A (dictSet a vi vw) Q NoE s := by
  have hlen := L.length
  unfold setKey at e
  split at e
  · rename_i i l
    obtain ⟨t, rfl⟩ := ri
    obtain ⟨hl, Dr⟩ := Dr
    split at e
    · rename_i hb
      refine wpAny_dictSet_pairs (isInt_self i t) Dr (fun h' D' hs => ?_) (by simp [sizeLine]; omega)
      rw [stored_zip i vw l us hl] at D'
      simp only [Option.some.injEq] at e
      split at e
      · rename_i hm
        rw [if_pos hm] at D'
        simp only [Prod.mk.injEq] at e
        obtain ⟨rfl, rfl⟩ := e
        exact hQ h' _ ⟨by rw [repl_length]; exact hl, D'⟩ (L.repl i rw' l) hs
      · rename_i hm
        rw [if_neg hm] at D'
        simp only [Prod.mk.injEq] at e
        obtain ⟨rfl, rfl⟩ := e
        exact hQ h' _ ⟨by simp [hl], D'⟩ (L.append (.one rw')) hs
    · cases e
  · rename_i i l
    obtain ⟨t, rfl⟩ := ri
    obtain ⟨hl, Dr⟩ := Dr
    split at e
    · rename_i hb
      refine wpAny_dictSet_pairs (isStr_self i t) Dr (fun h' D' hs => ?_) (by simp [sizeLine]; omega)
      rw [stored_zip i vw l us hl] at D'
      simp only [Option.some.injEq] at e
      split at e
      · rename_i hm
        rw [if_pos hm] at D'
        simp only [Prod.mk.injEq] at e
        obtain ⟨rfl, rfl⟩ := e
        exact hQ h' _ ⟨by rw [repl_length]; exact hl, D'⟩ (L.repl i rw' l) hs
      · rename_i hm
        rw [if_neg hm] at D'
        simp only [Prod.mk.injEq] at e
        obtain ⟨rfl, rfl⟩ := e
        exact hQ h' _ ⟨by simp [hl], D'⟩ (L.append (.one rw')) hs
    · cases e
  · cases e
theorem emitD_ok {kx vx : Expr} {gs : List Comprehension} {p : Pos} (hk : EvOk T c Φ k kx) (hv : EvOk T c Φ k vx) {d : Nat} (hn : (clausesOf (.DictComp kx vx gs csc p))[d + 1]? = none) :
    RestOk T k (.DictComp kx vx gs csc p) csc D (AccD T D) d (emitD (ev c Φ kx csc) (ev c Φ vx csc)) := by
  intro A env m s κ γ σ σ' acc acc' hA I F hD r e Q hQ
  unfold emitD at e
  simp only [Option.bind_eq_some_iff, Option.map_eq_some_iff] at e
  obtain ⟨⟨x, σ1⟩, h1, ⟨y, σ2⟩, h2, ⟨ks', xs'⟩, h3, e⟩ := e
  simp only [Prod.mk.injEq] at e
  obtain ⟨rfl, rfl⟩ := e
  unfold WorkW
  rw [hn]
  refine ⟨D, rfl, wpAny_mono (hk A env csc m s κ γ σ x σ1 hA I F h1) (fun vx' s₁ q => ?_) fun _ _ z => z⟩
  obtain ⟨κ1, γ1, S1, I1, R1⟩ := q
  refine wpAny_mono (hv A env csc m s₁ κ1 γ1 σ1 y σ2 hA I1 (F.step S1) h2) (fun vy s₂ q => ?_) fun _ _ z => z
  obtain ⟨κ2, γ2, S2, I2, R2⟩ := q
  have S12 := S1.te S2
  have F2 := F.step S12
  obtain ⟨⟨us, Dr, rl⟩, hD2⟩ := accD_rel.step r hD S12
  refine setKey_ok Dr rl (R1.step S2) R2 h3 fun h' us' D' L' hs => ?_
  obtain ⟨o, ho⟩ := Dr.some
  obtain ⟨o', ho'⟩ := D'.some
  have hO : Tmps s₂.heap κ2 [D] := fun b hb => by rw [List.mem_singleton.mp hb]; exact ⟨hD2, by rw [ho]; rfl⟩
  have M : Moved [D] s₂ κ2 { s₂ with heap := h', toks := s₂.toks + 1 } κ2 := .same hs (by simp)
  exact hQ _ ⟨κ2, γ2, S12.ps.ts (.one hs (.inl rfl) hD2 (by rw [ho']; rfl) (tk := s₂.toks + 1)), M.inv hO I2, M.fr hO F2, hD2, us', D', L'.lasts (M.lasts hO)⟩
end
end Mine
namespace Mine
open PySem
/-- the closure that a comprehension takes along -/
def clFrom (env : Env) : List (Str × NameKind) → List (Str × Addr) → List (Str × Addr)
  | [], acc => acc
  | (x, k) :: r, acc => clFrom env r (if k == .free then (x, (env.cells.lookup x).getD 0) :: acc else acc)
theorem closureFor_eq {env : Env} {scope : Scope} (h : ∀ x ∈ scope.names, x.2 = .free → (env.cells.lookup x.1).isSome) : closureFor scope env = pure (clFrom env scope.names []) := by
  have go : ∀ (names : List (Str × NameKind)) (acc : List (Str × Addr)), (∀ x ∈ names, x.2 = .free → (env.cells.lookup x.1).isSome) →
      (forIn names acc fun (x : Str × NameKind) (cs : List (Str × Addr)) => (if (x.2 == NameKind.free) = true then do
        let a ← cellOf env x.1
        pure (ForInStep.yield ((x.1, a) :: cs)) else pure (ForInStep.yield cs) : Sem _)) = pure (clFrom env names acc) := by
    intro names
    induction names with
    | nil => intro acc _; rfl
    | cons x r ih =>
      intro acc hh
      obtain ⟨n, k⟩ := x
      rw [List.forIn_cons]
      have ihr := fun acc => ih acc fun y hy => hh y (List.mem_cons_of_mem _ hy)
      by_cases hk : k = .free
      · subst hk
        obtain ⟨a, ha⟩ := Option.isSome_iff_exists.mp (hh _ List.mem_cons_self rfl)
        simp only [beq_self_eq_true, if_true]
        have hc : cellOf env n = pure a := by unfold cellOf; rw [ha]
        rw [hc]
        show (forIn r ((n, a) :: acc) _ : Sem _) = _
        rw [ihr]
        simp [clFrom, ha]
      · have hb : (k == NameKind.free) = false := by simpa using hk
        simp only [hb, Bool.false_eq_true, if_false]
        show (forIn r acc _ : Sem _) = _
        rw [ihr]
        simp [clFrom, hb]
  have := go scope.names [] h
  unfold closureFor
  refine Eq.trans ?_ (congrArg (fun z : Sem _ => z >>= fun cs => pure cs) this)
  rfl
theorem clFrom_mem (env : Env) : ∀ (names : List (Str × NameKind)) (acc : List (Str × Addr)) (x : Str) (a : Addr), (x, a) ∈ clFrom env names acc → (x, a) ∈ acc ∨ ((x, NameKind.free) ∈ names ∧ a = (env.cells.lookup x).getD 0)
  | [], acc, x, a, h => .inl h
  | (y, k) :: r, acc, x, a, h => by
    rcases clFrom_mem env r _ x a h with h | h
    · split at h
      · rename_i hk
        rcases List.mem_cons.mp h with q | h
        · cases q
          exact .inr ⟨by rw [show k = NameKind.free by simpa using hk]; exact List.mem_cons_self, rfl⟩
        · exact .inl h
      · exact .inl h
    · exact .inr ⟨List.mem_cons_of_mem _ h.1, h.2⟩
theorem clFrom_has (env : Env) : ∀ (names : List (Str × NameKind)) (acc : List (Str × Addr)) (x : Str), ((x, NameKind.free) ∈ names ∨ (acc.lookup x).isSome) → ((clFrom env names acc).lookup x).isSome
  | [], acc, x, h => by
    rcases h with h | h
    · cases h
    · exact h
  | (y, k) :: r, acc, x, h => by
    refine clFrom_has env r _ x ?_
    rcases h with h | h
    · rcases List.mem_cons.mp h with q | h
      · cases q
        exact .inr (by simp)
      · exact .inl h
    · right
      split
      · rw [List.lookup_cons]
        split
        · rfl
        · exact h
      · exact h
theorem cellsFrom_append : ∀ (names : List (Str × NameKind)) (n : Nat) (acc : List (Str × Addr)), cellsFrom n names acc = cellsFrom n names [] ++ acc
  | [], n, acc => rfl
  | (x, k) :: r, n, acc => by
    unfold cellsFrom
    split
    · rw [cellsFrom_append r (n + 1) ((x, n) :: acc), cellsFrom_append r (n + 1) [(x, n)]]; simp
    · exact cellsFrom_append r n acc
theorem cellsFrom_mem : ∀ (names : List (Str × NameKind)) (n : Nat) (x : Str) (a : Addr), (x, a) ∈ cellsFrom n names [] → (x, NameKind.cell) ∈ names
  | [], n, x, a, h => by cases h
  | (y, k) :: r, n, x, a, h => by
    unfold cellsFrom at h
    split at h
    · rename_i hk
      rw [cellsFrom_append] at h
      rcases List.mem_append.mp h with h | h
      · exact List.mem_cons_of_mem _ (cellsFrom_mem r _ x a h)
      · have := List.mem_singleton.mp h
        cases this
        rw [show k = NameKind.cell by simpa using hk]; exact List.mem_cons_self
    · exact List.mem_cons_of_mem _ (cellsFrom_mem r _ x a h)
theorem cellsFrom_has : ∀ (names : List (Str × NameKind)) (n : Nat) (x : Str), (x, NameKind.cell) ∈ names → ((cellsFrom n names []).lookup x).isSome
  | [], n, x, h => by cases h
  | (y, k) :: r, n, x, h => by
    unfold cellsFrom
    rcases List.mem_cons.mp h with q | h
    · have q1 := (Prod.mk.inj q).1
      have q2 := (Prod.mk.inj q).2
      subst q1 q2
      simp only [beq_self_eq_true, if_true]
      rw [cellsFrom_append, List.lookup_append]
      cases hh : (cellsFrom (n + 1) r []).lookup x with
      | some a => simp
      | none => simp
    · split
      · rw [cellsFrom_append, List.lookup_append]
        have := cellsFrom_has r (n + 1) x h
        cases hh : (cellsFrom (n + 1) r []).lookup x with
        | some a => simp
        | none => rw [hh] at this; cases this
      · exact cellsFrom_has r n x h
theorem mem_lookup {sc : Scope} (h : okScope sc = true) {x : Str} {k : NameKind} (hx : (x, k) ∈ sc.names) : sc.names.lookup x = some k := by
  unfold okScope at h
  simp only [Bool.and_eq_true, List.all_eq_true] at h
  simpa using h.2 _ hx
theorem relabel_lookup (csc : Scope) (env : Env) (x : Str) : (relabel csc env).names.lookup x = (csc.names.lookup x).map fun k => if (k == .free && env.scope.kind == .function && env.kindOf x == some .cell) then .cell else k := by
  unfold relabel
  simp only
  induction csc.names with
  | nil => rfl
  | cons y r ih =>
    obtain ⟨n, k⟩ := y
    rw [List.map_cons]
    by_cases hx : x = n
    · subst hx
      simp only [List.lookup_cons_self, Option.map_some]
      split
      · simp
      · simp
    · have hb : (x == n) = false := by simpa using hx
      simp only [List.lookup_cons, hb]
      rw [← ih]
      split <;> simp [List.lookup_cons, hb]
/-- a comprehension's frame -/
def cframe (csc : Scope) (env : Env) (N : Nat) : Env :=
  { scope := relabel csc env, locals := N, globals := env.globals, cells := cellsFrom (N + 1) csc.names [] ++ clFrom env csc.names [], qual := env.qual, func := none, code := env.code, frame := env.frame, builtins := env.builtins }
section
variable {T : Tp} {c : Cfg} {Φ : Fns} {k : Nat} {A : Around} {env : Env} {sc csc : Scope} {m : Fm} {s s₀ s' s'' : Shared} {κ κ₀ κ' κ'' : Addr → Col} {γ γ₀ γ' γ'' : Nat → Addr} {n₀ n n' n'' : Nat} {σ σ' : Sto} {D : Addr}
theorem inner_frame (F : FrOk T env sc m s.heap κ γ σ.nx) (I : Inv T s κ γ σ) (hok : okComp sc csc = true) {Q : Env → Shared → Prop}
    (hQ : ∀ h' κ', (∀ b o, s.heap.get? b = some o → h'.get? b = some o) → (∀ b, (s.heap.get? b).isSome → κ' b = κ b) → FrOk T (cframe csc env s.heap.objs.size) csc (inner csc m) h' κ' γ σ.nx → (∀ a, Owns (cframe csc env s.heap.objs.size) csc a → s.heap.get? a = none) →
      ∀ e : Env, { e with scope := relabel csc env } = cframe csc env s.heap.objs.size → Q e { s with heap := h' }) :
    closureFor csc env = pure (clFrom env csc.names []) ∧ wpAny (model T.prog T.w) A (newFunctionEnv csc env.globals (clFrom env csc.names []) [] env.qual none .none (some env)) Q NoE s := by
  unfold okComp at hok
  simp only [Bool.and_eq_true, List.all_eq_true, Bool.or_eq_true, bne_iff_ne, ne_eq, beq_iff_eq] at hok
  obtain ⟨hsc, hfree⟩ := hok
  have hfr : ∀ x, (x, NameKind.free) ∈ csc.names → ∃ a u L, env.cells.lookup x = some a ∧ s.heap.IsCell a u ∧ κ a = .fr L := fun x hx => by
    rcases hfree _ hx with q | q | q
    · exact absurd rfl q
    · obtain ⟨a, u, h1, h2, h3⟩ := F.own x q
      exact ⟨a, u, _, h1, h2, h3⟩
    · exact F.fre x q
  refine ⟨closureFor_eq fun x hx hk => ?_, ?_⟩
  · obtain ⟨n, k⟩ := x
    simp only at hk
    subst hk
    obtain ⟨a, u, L, h1, _⟩ := hfr n hx
    rw [h1]; rfl
  have hkind : csc.kind = .function := by
    have := hsc
    unfold okScope at this
    simp only [Bool.and_eq_true, beq_iff_eq] at this
    exact this.1
  simp only [newFunctionEnv, Option.isSome_some, if_true]
  refine wpAny_bind (wpAny_alloc ?_)
  refine wpAny_bind (wpAny_layCells _ (fun name kind cells => by cases hkc : kind == NameKind.cell <;> simp [hkc]) _ _ _ _ ?_)
  have ok := cellsFrom_ok csc.names (s.heap.push { cls := .type "dict", data := .dict #[] }) (s.heap.objs.size + 1) [] ⟨fun _ _ hm => (nomatch hm), List.Pairwise.nil⟩ (by rw [Heap.size_push]; exact Nat.le_refl _)
  rw [Heap.size_push] at ok
  rw [show ({ s with heap := s.heap.push { cls := .type "dict", data := .dict #[] } } : Shared).heap.objs.size = s.heap.objs.size + 1 from Heap.size_push ..]
  rw [cellsFrom_append]
  refine wpAny_bind ?_
  rw [List.forIn_nil]
  refine wpAny_pure (wpAny_pure ?_)
  generalize hh' : pushCells (s.heap.push { cls := .type "dict", data := .dict #[] }) csc.names = h' at ok
  have hk : ∀ b o, s.heap.get? b = some o → h'.get? b = some o := fun b o e => by rw [← hh']; exact pushCells_keeps _ _ b o (Heap.get?_push_of_some _ e)
  have hns : h'.Ns s.heap.objs.size (fun _ => none) := by rw [← hh']; exact (Heap.Ns.new s.heap (.type "dict")).keeps (pushCells_keeps _ _)
  let κ' : Addr → Col := fun b => if (s.heap.get? b).isSome then κ b else .fr s.heap.objs.size
  have hκ : ∀ b, (s.heap.get? b).isSome → κ' b = κ b := fun b hb => if_pos hb
  have hκ' : ∀ b, s.heap.objs.size ≤ b → κ' b = .fr s.heap.objs.size := fun b hb => if_neg (by
    cases e : s.heap.get? b with
    | none => simp
    | some o => exact absurd (Heap.lt_size e) (Nat.not_lt.mpr hb))
  have hnone : ∀ b, s.heap.objs.size ≤ b → s.heap.get? b = none := fun b hb => by
    cases e : s.heap.get? b with
    | none => rfl
    | some o => exact absurd (Heap.lt_size e) (Nat.not_lt.mpr hb)
  have L : Lasts s.heap κ γ σ.nx h' κ' γ σ.nx := .keeps hk hκ
  -- the cells of the frame
  have hown : ∀ x, csc.names.lookup x = some .cell → ∃ a, (cframe csc env s.heap.objs.size).cells.lookup x = some a ∧ h'.IsCell a none ∧ s.heap.objs.size + 1 ≤ a := fun x hx => by
    have hm := cellsFrom_has csc.names (s.heap.objs.size + 1) x (mem_of_lookup hx)
    obtain ⟨a, ha⟩ := Option.isSome_iff_exists.mp hm
    have := ok.empty x a (mem_of_lookup ha)
    refine ⟨a, ?_, this⟩
    show (cellsFrom (s.heap.objs.size + 1) csc.names [] ++ clFrom env csc.names []).lookup x = some a
    rw [List.lookup_append, ha]; rfl
  have hfre : ∀ x, csc.names.lookup x = some .free → ∃ a u L, (cframe csc env s.heap.objs.size).cells.lookup x = some a ∧ env.cells.lookup x = some a ∧ s.heap.IsCell a u ∧ κ a = .fr L := fun x hx => by
    obtain ⟨a, u, L, h1, h2, h3⟩ := hfr x (mem_of_lookup hx)
    refine ⟨a, u, L, ?_, h1, h2, h3⟩
    show (cellsFrom (s.heap.objs.size + 1) csc.names [] ++ clFrom env csc.names []).lookup x = some a
    rw [List.lookup_append]
    have e1 : (cellsFrom (s.heap.objs.size + 1) csc.names []).lookup x = none := by
      cases e : (cellsFrom (s.heap.objs.size + 1) csc.names []).lookup x with
      | none => rfl
      | some b =>
        have := mem_lookup hsc (cellsFrom_mem _ _ x b (mem_of_lookup e))
        rw [hx] at this; cases this
    rw [e1]
    obtain ⟨b, hb⟩ := Option.isSome_iff_exists.mp (clFrom_has env csc.names [] x (.inl (mem_of_lookup hx)))
    rw [hb]
    rcases clFrom_mem env _ _ x b (mem_of_lookup hb) with q | q
    · cases q
    · rw [q.2, h1]; rfl
  have hcel : ∀ x a, (cframe csc env s.heap.objs.size).cells.lookup x = some a → (s.heap.objs.size + 1 ≤ a ∧ (x, a) ∈ cellsFrom (s.heap.objs.size + 1) csc.names []) ∨ (a < s.heap.objs.size ∧ env.cells.lookup x = some a) := fun x a hx => by
    have hx' : (cellsFrom (s.heap.objs.size + 1) csc.names [] ++ clFrom env csc.names []).lookup x = some a := hx
    rw [List.lookup_append] at hx'
    cases e : (cellsFrom (s.heap.objs.size + 1) csc.names []).lookup x with
    | some b =>
      rw [e] at hx'
      simp at hx'
      subst hx'
      exact .inl ⟨(ok.empty x b (mem_of_lookup e)).2, mem_of_lookup e⟩
    | none =>
      rw [e] at hx'
      simp at hx'
      rcases clFrom_mem env _ _ x a (mem_of_lookup hx') with q | ⟨q1, q2⟩
      · cases q
      · obtain ⟨b, u, L, h1, h2, _⟩ := hfr x q1
        rw [h1] at q2
        simp at q2
        subst q2
        exact .inr ⟨h2.lt, h1⟩
  refine hQ h' κ' hk hκ ⟨by simpa [cframe, relabel] using hkind, F.glo, F.bui, fun x => ?_, hκ' _ (Nat.le_refl _), ⟨_, hns, fun x v e q => ?_⟩, fun x v e q => ?_, fun x q => ?_, fun x y a hx hy => ?_, fun x q => ?_, fun x q => ?_⟩ (fun a ha => ?_) _ rfl
  · show kcls ((relabel csc env).names.lookup x) = _
    rw [relabel_lookup]
    cases csc.names.lookup x with
    | none => rfl
    | some k =>
      simp only [Option.map_some]
      split
      · rename_i hc
        simp only [Bool.and_eq_true, beq_iff_eq] at hc
        rw [hc.1.1]; rfl
      · rfl
  · unfold inner at e
    rw [q] at e; cases e
  · unfold inner at e
    split at e
    · rename_i hx
      obtain ⟨a, u, L', h1, h2, h3, h4⟩ := hfre x hx
      have hs2 : kcls (sc.names.lookup x) = 2 := by
        rcases hfree _ (mem_of_lookup hx) with q | q | q
        · exact absurd rfl q
        · rw [q]; rfl
        · rw [q]; rfl
      obtain ⟨b, w, L2, g1, g2, g3, g4⟩ := F.cel x v e hs2
      rw [h2] at g1; injection g1 with g1; subst g1
      refine ⟨a, w, L2, h1, g2.keeps hk, ?_, g4.lasts L⟩
      obtain ⟨o, ho, _⟩ := g2
      rw [hκ a (by rw [ho]; rfl)]; exact g3
    · cases e
  · obtain ⟨a, h1, h2, h3⟩ := hown x q
    exact ⟨a, none, h1, h2, hκ' a (by omega)⟩
  · rcases hcel x a hx with ⟨p1, p2⟩ | ⟨p1, p2⟩ <;> rcases hcel y a hy with ⟨q1, q2⟩ | ⟨q1, q2⟩
    · exact name_of_addr ok.apart p2 q2
    · exact absurd (Nat.lt_of_lt_of_le q1 (Nat.le_of_succ_le p1)) (Nat.lt_irrefl _)
    · exact absurd (Nat.lt_of_lt_of_le p1 (Nat.le_of_succ_le q1)) (Nat.lt_irrefl _)
    · exact F.inj x y a p2 q2
  · show (relabel csc env).names.lookup x = _
    rw [relabel_lookup, q]; rfl
  · obtain ⟨a, u, L', h1, _, h2, h3⟩ := hfre x q
    refine ⟨a, u, L', h1, h2.keeps hk, ?_⟩
    obtain ⟨o, ho, _⟩ := h2
    rw [hκ a (by rw [ho]; rfl)]; exact h3
  · rcases ha with rfl | ⟨x, q1, q2⟩
    · exact hnone _ (Nat.le_refl _)
    · obtain ⟨b, h1, _, h3⟩ := hown x q1
      rw [q2] at h1; injection h1 with h1; subst h1
      exact hnone _ (by omega)
end
end Mine
namespace Mine
open PySem
/-- a comprehension's source: it is read, and an iterator stands -/
def SrcOk (T : Tp) (c : Cfg) (Φ : Fns) (k : Nat) (iter : Expr) : Prop := ∀ (A : Around) (env : Env) (sc : Scope) (m : Fm) (s : Shared) (κ : Addr → Col) (γ : Nat → Addr) (σ : Sto) (src : Src) (σ' : Sto),
  AOk A k → Inv T s κ γ σ → FrOk T env sc m s.heap κ γ σ.nx → evSrc c Φ iter (ev c Φ iter sc) sc m σ = some (src, σ') → (src.items σ').isSome →
    (∀ x, foldedSetIterable iter env x = pure x) ∧ wpAny (model T.prog T.w) A (eval iter env) (fun x s₁ => wpAny (model T.prog T.w) A (pyIter x) (fun it s₂ => ∃ κ₂ γ₂ O a, it = .ref a ∧ Step Pe s κ γ σ.nx s₂ κ₂ γ₂ σ'.nx ∧ Inv T s₂ κ₂ γ₂ σ' ∧
      ItOk T s₂.heap κ₂ γ₂ σ'.nx O 0 a src ∧ Tmps s₂.heap κ₂ O ∧ ∀ b ∈ O, s.heap.get? b = none) NoE s₁) NoE s
section
variable {T : Tp} {c : Cfg} {Φ : Fns} {k : Nat} {A : Around} {env : Env} {sc csc : Scope} {m : Fm} {s s₀ s' s'' : Shared} {κ κ₀ κ' κ'' : Addr → Col} {γ γ₀ γ' γ'' : Nat → Addr} {n₀ n n' n'' : Nat} {σ σ' σ1 : Sto} {D : Addr}
/-- a value is a source -/
theorem src_val {iter : Expr} (hx : EvOk T c Φ k iter) (he : ∀ w sc m σ, evSrc c Φ iter w sc m σ = (w m σ).map fun v => (.val v.1, v.2)) : SrcOk T c Φ k iter := by
  intro A env sc m s κ γ σ src σ' hA I F e hit
  rw [he] at e
  simp only [Option.map_eq_some_iff] at e
  obtain ⟨⟨v, σ1⟩, h1, e⟩ := e
  simp only [Prod.mk.injEq] at e
  obtain ⟨rfl, rfl⟩ := e
  obtain ⟨xs, hxs⟩ := Option.isSome_iff_exists.mp hit
  refine ⟨fun x => folded_plain h1 env x, wpAny_mono (hx A env sc m s κ γ σ v σ1 hA I F h1) (fun x s₁ q => ?_) fun _ _ z => z⟩
  obtain ⟨κ1, γ1, S1, I1, R1⟩ := q
  refine iter_ok I1 R1 hxs fun o hnone S2 I2 hO it => ⟨_, _, _, _, rfl, S1.te S2, I2, it, hO, fun b hb => ?_⟩
  rw [List.mem_singleton.mp hb]
  cases e : s.heap.get? s₁.heap.objs.size with
  | none => rfl
  | some o' =>
    have := S1.alive s₁.heap.objs.size (by rw [e]; rfl)
    rw [hnone] at this; cases this
/-- what stands behind a comprehension -/
structure CDone (T : Tp) (R : Addr → Heap → (Addr → Col) → (Nat → Addr) → Nat → Acc → Prop) (s : Shared) (κ : Addr → Col) (γ : Nat → Addr) (n : Nat) (D C : Addr) (acc' : Acc) (σ' : Sto) (s' : Shared) (κ' : Addr → Col) (γ' : Nat → Addr) : Prop where
  step : Step Pe s κ γ n s' κ' γ' σ'.nx
  inv : Inv T s' κ' γ' σ'
  newD : s.heap.get? D = none
  colD : κ' D = .tmp
  acc : R D s'.heap κ' γ' σ'.nx acc'
  newC : s.heap.get? C = none
  colC : κ' C = .fr C
theorem CDone.go {R : Addr → Heap → (Addr → Col) → (Nat → Addr) → Nat → Acc → Prop} (hR : ∀ D, AccRel T D (R D)) {C : Addr} {acc' : Acc} {h' : Heap} (x : CDone T R s κ γ n D C acc' σ' s' κ' γ') (hs : Heap.SameBut C s'.heap h') : CDone T R s κ γ n D C acc' σ' { s' with heap := h' } κ' γ' := by
  have hne : D ≠ C := by rintro rfl; have := x.colD; rw [x.colC] at this; cases this
  refine ⟨⟨fun a o e q => (hs.2 a ?_).trans (x.step.keep a o e q), fun a e => ?_, x.step.col, x.step.gam, x.step.nx, x.step.gens, x.step.os⟩, x.inv.own hs x.colC (tk := s'.toks), x.newD, x.colD, ?_, x.newC, x.colC⟩
  · rintro rfl; rw [x.newC] at e; cases e
  · show (h'.get? a).isSome
    rw [hs.2 a (by rintro rfl; rw [x.newC] at e; cases e)]
    exact x.step.alive a e
  · exact (hR D).keep x.acc (.own hs x.colC) fun o e => (hs.2 D hne).trans e
theorem comp_run {e : Expr} {pos : Pos} {newAcc : Sem Value} {use : Option (Value → Sem Unit)} {t iter : Expr} {ifs : List Expr} {gs : List Comprehension} {R : Addr → Heap → (Addr → Col) → (Nat → Addr) → Nat → Acc → Prop} {rest : Fm → Acc → Sto → Option (Acc × Sto)} {acc₀ acc' : Acc} {src : Src} {Q : Value → Shared → Prop}
    (hcl : clausesOf e = ⟨t, iter, ifs, 0⟩ :: gs) (he : isComp e = true) (hok : okComp sc csc = true) (hsrc : SrcOk T c Φ k iter) (hR : ∀ D, AccRel T D (R D))
    (hnew : ∀ (s : Shared) (κ : Addr → Col) (γ : Nat → Addr) (n : Nat) (Q : Value → Shared → Prop), (∀ o tk, R s.heap.objs.size (s.heap.push o) (upc κ s.heap.objs.size .tmp) γ n acc₀ → Q (.ref s.heap.objs.size) { s with heap := s.heap.push o, toks := tk }) → wpAny (model T.prog T.w) A newAcc Q NoE s)
    (hrest : ∀ D, RestOk T k e csc D (R D) 0 rest) (hifs : TrsOk T c Φ k ifs) (hA : AOk A k) (I : Inv T s κ γ σ) (F : FrOk T env sc m s.heap κ γ σ.nx)
    (e1 : evSrc c Φ iter (ev c Φ iter sc) sc m σ = some (src, σ1)) (e2 : compA csc src t (inner csc m) (trs c Φ ifs csc) rest acc₀ σ1 = some (acc', σ'))
    (hQ : match use with
      | none => ∀ D C s' κ' γ', CDone T R s κ γ σ.nx D C acc' σ' s' κ' γ' → Q (.ref D) s'
      | some u => ∀ D C s' κ' γ', CDone T R s κ γ σ.nx D C acc' σ' s' κ' γ' → (∃ mC, s'.heap.Ns C mC) → wpAny (model T.prog T.w) A (u (.ref D)) (fun _ s'' => ∃ mC, s''.heap.Ns C mC ∧ ∀ h', Heap.SameBut C s''.heap h' → Q .none { s'' with heap := h' }) NoE s') :
    wpAny (model T.prog T.w) A (comprehension e csc env pos newAcc false (eval iter env) use) Q NoE s := by
  have hsc : okScope csc = true := by unfold okComp at hok; simp only [Bool.and_eq_true] at hok; exact hok.1
  have hkind : csc.kind = .function := by
    have := hsc
    unfold okScope at this
    simp only [Bool.and_eq_true, beq_iff_eq] at this
    exact this.1
  have hit : (src.items σ1).isSome := by
    unfold compA at e2
    split at e2
    · simp only [Option.bind_eq_some_iff] at e2
      obtain ⟨xs, hxs, _⟩ := e2
      rw [hxs]; rfl
    · cases e2
  obtain ⟨hfold, hw⟩ := hsrc A env sc m s κ γ σ src σ1 hA I F e1 hit
  have hcl0 := (inner_frame (A := A) (Q := fun _ _ => True) F I hok (fun _ _ _ _ _ _ _ _ => trivial)).1
  refine wpAny_comprehension_free hcl hfold hcl0 hkind (fun x hx hl => mem_lookup hsc (by rw [← hl]; exact hx)) ?_
  refine wpAny_mono hw (fun x s₁ q => wpAny_mono q (fun it s₂ q => ?_) fun _ _ z => z) fun _ _ z => z
  obtain ⟨κ2, γ2, O, a, rfl, S2, I2, it2, hO2, hn2⟩ := q
  refine hnew s₂ κ2 γ2 σ1.nx _ fun o tk r3 => ?_
  have S3 : Step Pe s₂ κ2 γ2 σ1.nx { s₂ with heap := s₂.heap.push o, toks := tk } (upc κ2 s₂.heap.objs.size .tmp) γ2 σ1.nx := .push o .tmp
  have I3 : Inv T { s₂ with heap := s₂.heap.push o, toks := tk } (upc κ2 s₂.heap.objs.size .tmp) γ2 σ1 := I2.push o .tmp
  have F3 := (F.step S2).step S3
  have it3 := it2.step hO2 S3
  have hO3 := S3.tmps hO2
  have hDnone : s₂.heap.get? s₂.heap.objs.size = none := get?_size _
  have hDO : s₂.heap.objs.size ∉ O := fun hb => by have := (hO2 _ hb).2; rw [hDnone] at this; cases this
  have hDs : s.heap.get? s₂.heap.objs.size = none := by
    cases e : s.heap.get? s₂.heap.objs.size with
    | none => rfl
    | some o' => have := S2.alive _ (by rw [e]; rfl : (s.heap.get? s₂.heap.objs.size).isSome); rw [hDnone] at this; cases this
  refine (inner_frame (A := A) (s := { s₂ with heap := s₂.heap.push o, toks := tk }) F3 I3 hok fun h4 κ4 hk hc F4 hown ce hce => ?_).2
  have S4 : Step Pe { s₂ with heap := s₂.heap.push o, toks := tk } (upc κ2 s₂.heap.objs.size .tmp) γ2 σ1.nx { s₂ with heap := h4, toks := tk } κ4 γ2 σ1.nx := .keeps (s := { s₂ with heap := s₂.heap.push o, toks := tk }) hk hc (tk := tk)
  have I4 : Inv T { s₂ with heap := h4, toks := tk } κ4 γ2 σ1 := I3.keeps hk hc (tk := tk)
  have it4 := it3.step hO3 S4
  have hO4 := S4.tmps hO3
  have r4 := (hR _).step r3 upc_self S4
  rw [hce]
  have hloc : ce.locals = (cframe csc env (s₂.heap.push o).objs.size).locals := by rw [← hce]
  have S04 := (S2.te S3).te S4
  have hCnone : ∀ b, Owns (cframe csc env (s₂.heap.push o).objs.size) csc b → s.heap.get? b = none := fun b hb => by
    cases e : s.heap.get? b with
    | none => rfl
    | some o' => have := (S2.te S3).alive b (by rw [e]; rfl); rw [hown b hb] at this; cases this
  have := comp_loop (s₀ := s) (κ₀ := κ) (γ₀ := γ) (n₀ := σ.nx) he (hR s₂.heap.objs.size) (d := 0) (by rw [hcl]; rfl) (hrest _) hifs hA (env := cframe csc env (s₂.heap.push o).objs.size) S04.ps hn2 I4 F4 r4.2 hDO r4.1 it4 hO4 e2
  refine codeAny_mono this fun rr s₅ h₅ => ?_
  cases rr with
  | error x => exact h₅.elim
  | ok f =>
    obtain ⟨κ5, γ5, S5, I5, F5, hD5, r5⟩ := h₅
    have S5' : Step Pe s κ γ σ.nx s₅ κ5 γ5 σ'.nx := S5.pe fun b hb => hb.elim (fun q => by rw [q]; exact hDs) fun q => hCnone b q
    have done : CDone T R s κ γ σ.nx s₂.heap.objs.size (cframe csc env (s₂.heap.push o).objs.size).locals acc' σ' s₅ κ5 γ5 := ⟨S5', I5, hDs, hD5, r5, hCnone _ (.inl rfl), F5.col⟩
    obtain ⟨mC, hns, _⟩ := F5.ns
    cases use with
    | none =>
      refine ⟨mC, by rw [hloc]; exact hns, fun h' hs' => ?_⟩
      rw [hloc] at hs'
      exact hQ _ _ _ _ _ (done.go hR hs')
    | some u =>
      show wpAny _ A (u (.ref s₂.heap.objs.size)) _ _ s₅
      rw [hloc]
      exact hQ _ _ _ _ _ done ⟨mC, hns⟩
/-- a list's address is coloured at last -/
theorem accL_done {C : Addr} {acc' : Acc} {p : Pos} (x : CDone T (AccL T) s κ γ n D C acc' σ' s' κ' γ') :
    ∃ κ'' γ'', Step Pe s κ γ n s' κ'' γ'' (mkL c p acc'.vs σ').2.nx ∧ Inv T s' κ'' γ'' (mkL c p acc'.vs σ').2 ∧ Rep T s'.heap κ'' γ'' (mkL c p acc'.vs σ').2.nx (mkL c p acc'.vs σ').1 (.ref D) ∧ κ'' C = .fr C := by
  have hne : C ≠ D := by rintro rfl; have := x.colD; rw [x.colC] at this; cases this
  obtain ⟨vs, ep, g, b, r⟩ := x.acc
  have hb : acc'.vs.length ≤ 2 ^ 24 := by omega
  have hcol : ∀ cc, ∀ a, (s.heap.get? a).isSome → (κ a).isOb = false → upc κ' D cc a = κ a := fun cc a ha hob => by
    rw [upc_ne (by rintro rfl; rw [x.newD] at ha; cases ha)]; exact x.step.col a ha hob
  have L : ∀ cc, Lasts s'.heap κ' γ' σ'.nx s'.heap (upc κ' D cc) γ' σ'.nx := fun cc => ⟨fun a o e q => ⟨e, by rw [upc_ne (by rintro rfl; rw [x.colD] at q; cases q)]; exact q⟩, fun _ _ => rfl, Nat.le_refl _⟩
  unfold mkL
  split
  · have L2 : Lasts s'.heap κ' γ' σ'.nx s'.heap (upc κ' D (.ob σ'.nx)) (upg γ' σ'.nx D) (σ'.nx + 1) :=
      ⟨fun a o e q => ⟨e, by rw [upc_ne (by rintro rfl; rw [x.colD] at q; cases q)]; exact q⟩, fun l hl => upg_ne (Nat.ne_of_lt hl), Nat.le_succ _⟩
    refine ⟨upc κ' D (.ob σ'.nx), upg γ' σ'.nx D, ⟨x.step.keep, x.step.alive, hcol _, fun l hl => ?_, Nat.le_succ_of_le x.step.nx, x.step.gens, x.step.os⟩, ⟨fun a o e => ?_, fun l o e => ?_⟩, ⟨by rw [upg_self], Nat.lt_succ_self _⟩, by rw [upc_ne hne]; exact x.colC⟩
    · rw [upg_ne (Nat.ne_of_lt (Nat.lt_of_lt_of_le hl x.step.nx))]; exact x.step.gam l hl
    · have z := x.inv.base a o e
      exact ⟨z.1, by rw [upc_ne (by rintro rfl; rw [x.colD] at z; cases z.2)]; exact z.2⟩
    · rw [Sto.new_get] at e
      split at e
      · rename_i q
        subst q
        injection e with e
        subst e
        exact ⟨Nat.lt_succ_self _, vs, ep, by rw [upg_self, upc_self], by rw [upg_self]; exact g, hb, r.lasts L2⟩
      · have z := x.inv.objs l o e
        exact ⟨Nat.lt_succ_of_lt z.1, z.2.lasts L2 z.1 fun a o q g => ⟨g, by rw [upc_ne (by rintro rfl; rw [x.colD] at q; cases q)]; exact q⟩⟩
  · refine ⟨upc κ' D .fz, γ', ⟨x.step.keep, x.step.alive, hcol _, x.step.gam, x.step.nx, x.step.gens, x.step.os⟩, ⟨fun a o e => ?_, fun l o e => ?_⟩, ⟨D, vs, ep, rfl, upc_self, g, hb, r.lasts (L _)⟩, by rw [upc_ne hne]; exact x.colC⟩
    · have z := x.inv.base a o e
      exact ⟨z.1, by rw [upc_ne (by rintro rfl; rw [x.colD] at z; cases z.2)]; exact z.2⟩
    · have z := x.inv.objs l o e
      exact ⟨z.1, z.2.lasts (L _) z.1 fun a o q g => ⟨g, by rw [upc_ne (by rintro rfl; rw [x.colD] at q; cases q)]; exact q⟩⟩
theorem accD_done (O : T.h₀.get? sysModules ≠ none) {C : Addr} {acc' : Acc} (x : CDone T (AccD T) s κ γ n D C acc' σ' s' κ' γ') :
    ∃ κ'' γ'', Step Pe s κ γ n s' κ'' γ'' σ'.nx ∧ Inv T s' κ'' γ'' σ' ∧ Rep T s'.heap κ'' γ'' σ'.nx (.dict acc'.ks acc'.vs) (.ref D) ∧ κ'' C = .fr C := by
  have hneC : C ≠ D := by rintro rfl; have := x.colD; rw [x.colC] at this; cases this
  obtain ⟨us, g, r⟩ := x.acc
  have hcol : ∀ cc, ∀ a, (s.heap.get? a).isSome → (κ a).isOb = false → upc κ' D cc a = κ a := fun cc a ha hob => by
    rw [upc_ne (by rintro rfl; rw [x.newD] at ha; cases ha)]; exact x.step.col a ha hob
  have L : ∀ cc, Lasts s'.heap κ' γ' σ'.nx s'.heap (upc κ' D cc) γ' σ'.nx := fun cc => ⟨fun a o e q => ⟨e, by rw [upc_ne (by rintro rfl; rw [x.colD] at q; cases q)]; exact q⟩, fun _ _ => rfl, Nat.le_refl _⟩
  have hne : (D == sysModules) = false := by
    have : D ≠ sysModules := by
      rintro rfl
      cases e : T.h₀.get? sysModules with
      | none => exact O e
      | some o => have := (x.inv.base _ _ e).2; rw [x.colD] at this; cases this
    simpa using this
  refine ⟨upc κ' D .fz, γ', ⟨x.step.keep, x.step.alive, hcol _, x.step.gam, x.step.nx, x.step.gens, x.step.os⟩, ⟨fun a o e => ?_, fun l o e => ?_⟩, ⟨D, us, rfl, upc_self, hne, g, r.lasts (L _)⟩, by rw [upc_ne hneC]; exact x.colC⟩
  · have z := x.inv.base a o e
    exact ⟨z.1, by rw [upc_ne (by rintro rfl; rw [x.colD] at z; cases z.2)]; exact z.2⟩
  · have z := x.inv.objs l o e
    exact ⟨z.1, z.2.lasts (L _) z.1 fun a o q g => ⟨g, by rw [upc_ne (by rintro rfl; rw [x.colD] at q; cases q)]; exact q⟩⟩
end
end Mine
namespace Mine
open PySem
section
variable {T : Tp} {c : Cfg} {Φ : Fns} {k : Nat}
/-- what the parts of a comprehension keep -/
def GensOk (T : Tp) (c : Cfg) (Φ : Fns) (k : Nat) (gs : List Comprehension) : Prop := ∀ g ∈ gs, EvOk T c Φ k g.iter ∧ TrsOk T c Φ k g.ifs
theorem listcomp_run {elt t iter : Expr} {ifs : List Expr} {gs : List Comprehension} {csc : Scope} {p : Pos} (hx : EvOk T c Φ k elt) (hi : SrcOk T c Φ k iter) (hifs : TrsOk T c Φ k ifs) (hg : GensOk T c Φ k gs)
    {A : Around} {env : Env} {sc : Scope} {m : Fm} {s : Shared} {κ : Addr → Col} {γ : Nat → Addr} {σ σ' : Sto} {v : AV} {pos : Pos} {use : Option (Value → Sem Unit)} {Q : Value → Shared → Prop} (hA : AOk A k) (I : Inv T s κ γ σ) (F : FrOk T env sc m s.heap κ γ σ.nx)
    (e : ev c Φ (.ListComp elt (⟨t, iter, ifs, 0⟩ :: gs) csc p) sc m σ = some (v, σ'))
    (hQ : match use with
      | none => ∀ u s', EvP T s κ γ σ.nx v σ' u s' → Q u s'
      | some us => ∀ D C s' κ' γ', Step Pe s κ γ σ.nx s' κ' γ' σ'.nx → Inv T s' κ' γ' σ' → Rep T s'.heap κ' γ' σ'.nx v (.ref D) → κ' C = .fr C → s.heap.get? C = none → (∃ mC, s'.heap.Ns C mC) → wpAny (model T.prog T.w) A (us (.ref D)) (fun _ s'' => ∃ mC, s''.heap.Ns C mC ∧ ∀ h', Heap.SameBut C s''.heap h' → Q .none { s'' with heap := h' }) NoE s') :
    wpAny (model T.prog T.w) A (comprehension (.ListComp elt (⟨t, iter, ifs, 0⟩ :: gs) csc p) csc env pos (newList []) false (eval iter env) use) Q NoE s := by
  simp only [ev] at e
  split at e
  · rename_i hok
    simp only [Option.bind_eq_some_iff, Option.map_eq_some_iff] at e
    obtain ⟨⟨src, σ1⟩, h1, ⟨acc', σ2⟩, h2, e⟩ := e
    have e' : v = (mkL c p acc'.vs σ2).1 ∧ σ' = (mkL c p acc'.vs σ2).2 := by
      simp only at e
      rw [e]; exact ⟨rfl, rfl⟩
    refine comp_run (R := AccL T) (acc₀ := ⟨.ki [], []⟩) rfl rfl hok.2 hi (fun D => accL_rel) (fun s κ γ n Q h => ?_) (fun D => gens_ok rfl accL_rel (fun d hn => emitL_ok hx hn) gs 0 rfl hg) hifs hA I F h1 h2 ?_
    · exact wpAny_newList (h _ s.toks ⟨[], 0, Heap.get?_push_size _ rfl, by simp, rfl⟩)
    · cases use with
      | none =>
        intro D C s' κ' γ' d
        refine hQ _ _ ?_
        rw [e'.1, e'.2]
        obtain ⟨κ'', γ'', q1, q2, q3, _⟩ := accL_done (c := c) (p := p) d
        exact ⟨κ'', γ'', q1, q2, q3⟩
      | some u =>
        intro D C s' κ' γ' d hC
        obtain ⟨κ'', γ'', q1, q2, q3, q4⟩ := accL_done (c := c) (p := p) d
        rw [← e'.2] at q1 q2 q3
        rw [← e'.1] at q3
        exact hQ D C s' κ'' γ'' q1 q2 q3 q4 d.newC hC
  · cases e
theorem listcomp_node {elt t iter : Expr} {ifs : List Expr} {gs : List Comprehension} {a : Int} {csc : Scope} {p : Pos} (hx : EvOk T c Φ k elt) (hi : SrcOk T c Φ k iter) (hifs : TrsOk T c Φ k ifs) (hg : GensOk T c Φ k gs) :
    EvOk T c Φ k (.ListComp elt (⟨t, iter, ifs, a⟩ :: gs) csc p) := by
  intro A env sc m s κ γ σ v σ' hA I F e
  have ha : a = 0 := by
    simp only [ev] at e
    split at e
    · rename_i h; exact h.1
    · cases e
  subst ha
  rw [arm_eval_ListComp]
  exact listcomp_run (use := none) hx hi hifs hg hA I F e fun u s' q => q
theorem dictcomp_run (O : TopOk T c) {kx vx t iter : Expr} {ifs : List Expr} {gs : List Comprehension} {csc : Scope} {p : Pos} (hk : EvOk T c Φ k kx) (hv : EvOk T c Φ k vx) (hi : SrcOk T c Φ k iter) (hifs : TrsOk T c Φ k ifs) (hg : GensOk T c Φ k gs)
    {A : Around} {env : Env} {sc : Scope} {m : Fm} {s : Shared} {κ : Addr → Col} {γ : Nat → Addr} {σ σ' : Sto} {v : AV} {pos : Pos} {use : Option (Value → Sem Unit)} {Q : Value → Shared → Prop} (hA : AOk A k) (I : Inv T s κ γ σ) (F : FrOk T env sc m s.heap κ γ σ.nx)
    (e : ev c Φ (.DictComp kx vx (⟨t, iter, ifs, 0⟩ :: gs) csc p) sc m σ = some (v, σ'))
    (hQ : match use with
      | none => ∀ u s', EvP T s κ γ σ.nx v σ' u s' → Q u s'
      | some us => ∀ D C s' κ' γ', Step Pe s κ γ σ.nx s' κ' γ' σ'.nx → Inv T s' κ' γ' σ' → Rep T s'.heap κ' γ' σ'.nx v (.ref D) → κ' C = .fr C → s.heap.get? C = none → (∃ mC, s'.heap.Ns C mC) → wpAny (model T.prog T.w) A (us (.ref D)) (fun _ s'' => ∃ mC, s''.heap.Ns C mC ∧ ∀ h', Heap.SameBut C s''.heap h' → Q .none { s'' with heap := h' }) NoE s') :
    wpAny (model T.prog T.w) A (comprehension (.DictComp kx vx (⟨t, iter, ifs, 0⟩ :: gs) csc p) csc env pos newDict false (eval iter env) use) Q NoE s := by
  simp only [ev] at e
  split at e
  · rename_i hok
    simp only [Option.bind_eq_some_iff, Option.map_eq_some_iff] at e
    obtain ⟨⟨src, σ1⟩, h1, ⟨acc', σ2⟩, h2, e⟩ := e
    simp only [Prod.mk.injEq] at e
    obtain ⟨rfl, rfl⟩ := e
    refine comp_run (R := AccD T) (acc₀ := ⟨if c.sk p then .ks [] else .ki [], []⟩) rfl rfl hok.2 hi (fun D => accD_rel) (fun s κ γ n Q h => ?_) (fun D => gens_ok rfl accD_rel (fun d hn => emitD_ok hk hv hn) gs 0 rfl hg) hifs hA I F h1 h2 ?_
    · refine wpAny_newObj_type (h _ s.toks ⟨[], ?_, rfl⟩)
      split
      · exact ⟨rfl, Heap.DictOf.new _⟩
      · exact ⟨rfl, Heap.DictOf.new _⟩
    · cases use with
      | none =>
        intro D C s' κ' γ' d
        obtain ⟨κ'', γ'', q1, q2, q3, _⟩ := accD_done O.sys d
        exact hQ _ _ ⟨κ'', γ'', q1, q2, q3⟩
      | some u =>
        intro D C s' κ' γ' d hC
        obtain ⟨κ'', γ'', q1, q2, q3, q4⟩ := accD_done O.sys d
        exact hQ D C s' κ'' γ'' q1 q2 q3 q4 d.newC hC
  · cases e
theorem dictcomp_node (O : TopOk T c) {kx vx t iter : Expr} {ifs : List Expr} {gs : List Comprehension} {a : Int} {csc : Scope} {p : Pos} (hk : EvOk T c Φ k kx) (hv : EvOk T c Φ k vx) (hi : SrcOk T c Φ k iter) (hifs : TrsOk T c Φ k ifs) (hg : GensOk T c Φ k gs) :
    EvOk T c Φ k (.DictComp kx vx (⟨t, iter, ifs, a⟩ :: gs) csc p) := by
  intro A env sc m s κ γ σ v σ' hA I F e
  have ha : a = 0 := by
    simp only [ev] at e
    split at e
    · rename_i h; exact h.1
    · cases e
  subst ha
  rw [arm_eval_DictComp]
  exact dictcomp_run (use := none) O hk hv hi hifs hg hA I F e fun u s' q => q
end
end Mine
namespace Mine
open PySem
section
variable {T : Tp} {c : Cfg} {Φ : Fns} {k : Nat}
/-- a call of two arguments is a source: zip's pairs, or a value -/
theorem src_call (O : TopOk T c) (hΦ : FnsOk T Φ k) {f : Str} {fp p : Pos} {a b : Expr} (ha : EvOk T c Φ k a) (hb : EvOk T c Φ k b) : SrcOk T c Φ k (.Call (.Name f fp) [a, b] [] p) := by
  intro A env sc m s κ γ σ src σ' hA I F e hit
  refine ⟨fun x => rfl, ?_⟩
  simp only [evSrc, Option.bind_eq_some_iff] at e
  obtain ⟨g, hg, ⟨x, σ1⟩, h1, ⟨y, σ2⟩, h2, e⟩ := e
  replace e : srcCall c Φ p g x y σ2 = some (src, σ') := e
  have hev : evs c Φ [a, b] sc m σ = some ([x, y], σ2) := by simp [evs, h1, h2]
  have hs : EvsOk T c Φ k [a, b] := evs_cons ha (evs_cons hb evs_nil)
  refine PyProof.Rows.Call_Name rfl ?_
  have fresh : ∀ {s₁ : Shared} {κ1 : Addr → Col} {γ1 : Nat → Addr} {n1 : Nat} {b : Addr}, Step Pe s κ γ σ.nx s₁ κ1 γ1 n1 → s₁.heap.get? b = none → s.heap.get? b = none := fun {s₁ κ1 γ1 n1 b} S h => by
    cases e : s.heap.get? b with
    | none => rfl
    | some o' => have := S.alive b (by rw [e]; rfl); rw [h] at this; cases this
  have z := look_ok (A := A) O I F hg (Q := fun u s₁ => wpAny (model T.prog T.w) A (callWith p u [] (backTo p (starEach [a, b] env)) []) (fun x s₁ => wpAny (model T.prog T.w) A (pyIter x) (fun it s₂ => ∃ κ₂ γ₂ O a, it = .ref a ∧ Step Pe s κ γ σ.nx s₂ κ₂ γ₂ σ'.nx ∧ Inv T s₂ κ₂ γ₂ σ' ∧
      ItOk T s₂.heap κ₂ γ₂ σ'.nx O 0 a src ∧ Tmps s₂.heap κ₂ O ∧ ∀ b ∈ O, s.heap.get? b = none) NoE s₁) NoE s₁) fun u r => by
    have hg' : ∃ n, g = .bi n ∨ g = .glob n := by
      unfold srcCall at e
      split at e
      · exact ⟨_, .inl rfl⟩
      · exact ⟨_, .inr rfl⟩
      · cases e
    refine callWith_ok O (args_plain hev).1 hg' r fun q => evalArgs_ok hs hA I F hev fun vs s₁ zz => ?_
    obtain ⟨κ1, γ1, S1, I1, R1⟩ := zz
    refine ⟨⟨κ1, γ1, σ2, I1⟩, ?_⟩
    have val : ∀ v, callV c Φ p g [x, y] σ2 = some (v, σ') → src = .val v → wpAny (model T.prog T.w) A (call u vs) (fun x s₁ => wpAny (model T.prog T.w) A (pyIter x) (fun it s₂ => ∃ κ₂ γ₂ O a, it = .ref a ∧ Step Pe s κ γ σ.nx s₂ κ₂ γ₂ σ'.nx ∧ Inv T s₂ κ₂ γ₂ σ' ∧
      ItOk T s₂.heap κ₂ γ₂ σ'.nx O 0 a src ∧ Tmps s₂.heap κ₂ O ∧ ∀ b ∈ O, s.heap.get? b = none) NoE s₁) NoE s₁ := by
      rintro v hv rfl
      obtain ⟨xs, hxs⟩ := Option.isSome_iff_exists.mp hit
      refine wpAny_mono (callV_ok hΦ hA I1 hv (r.step S1) R1) (fun w s₂ q => ?_) fun _ _ z => z
      obtain ⟨κ2, γ2, S2, I2, R2⟩ := q
      refine iter_ok I2 R2 hxs fun o hnone S3 I3 hO it => ⟨_, _, _, _, rfl, (S1.te S2).te S3, I3, it, hO, fun b hb => ?_⟩
      rw [List.mem_singleton.mp hb]
      exact fresh (S1.te S2) hnone
    unfold srcCall at e
    split at e
    · rename_i nm
      split at e
      · rename_i hz
        subst hz
        split at e
        · rename_i xs ys
          simp only [Option.some.injEq, Prod.mk.injEq] at e
          obtain ⟨rfl, rfl⟩ := e
          obtain ⟨v1, us, rfl, r1, v2, us2, rfl, r2, hus⟩ := R1
          rw [show us2 = [] from hus]
          obtain ⟨l1, vs1, ep1, rfl, c1, g1, b1, q1⟩ := r1
          obtain ⟨l2, vs2, ep2, rfl, c2, g2, b2, q2⟩ := r2
          have hu : u = .type "zip" := by
            have : biV "zip" = some u := r
            unfold biV at this
            rw [if_neg (by decide), if_neg (by decide), if_neg (by decide), if_neg (by decide), if_neg (by decide), if_neg (by decide), if_neg (by decide), if_neg (by decide), if_pos rfl] at this
            injection this with this
            exact this.symm
          subst hu
          refine call_zip_2 (lobj_list g1) (lobj_list g2) fun h' hz hTI hTO i1 i2 hsz hk => ?_
          refine wpAny_pyIter_zip hz ?_
          generalize hN : s₁.heap.objs.size = N at *
          have old : ∀ {b : Addr}, N ≤ b → s₁.heap.get? b = none := fun {b} hb => by
            cases e : s₁.heap.get? b with
            | none => rfl
            | some o => exact absurd (Heap.lt_size e) (Nat.not_lt.mpr (hN ▸ hb))
          let κ2 : Addr → Col := fun b => if (s₁.heap.get? b).isSome then κ1 b else .tmp
          have hκ : ∀ b, (s₁.heap.get? b).isSome → κ2 b = κ1 b := fun b hb => if_pos hb
          have S2 : Step Pe s₁ κ1 γ1 σ2.nx { s₁ with heap := h' } κ2 γ1 σ2.nx := .keeps hk hκ (tk := s₁.toks)
          have I2 : Inv T { s₁ with heap := h' } κ2 γ1 σ2 := I1.keeps hk hκ (tk := s₁.toks)
          have L : Lasts s₁.heap κ1 γ1 σ2.nx h' κ2 γ1 σ2.nx := .keeps hk hκ
          have lt1 : l1 < N := hN ▸ Heap.lt_size g1
          have lt2 : l2 < N := hN ▸ Heap.lt_size g2
          have hmem : ∀ b ∈ [N + 4, N + 2, N + 3, N, N + 1], N ≤ b := fun b hb => by
            simp only [List.mem_cons, List.not_mem_nil, or_false] at hb
            rcases hb with rfl | rfl | rfl | rfl | rfl <;> omega
          have ap : ∀ i j : Nat, i ≠ j → N + i ≠ N + j := fun i j h q => h (Nat.add_left_cancel q)
          have la : ∀ {l : Nat} (i : Nat), l < N → l ≠ N + i := fun i h q => by omega
          refine ⟨κ2, γ1, [N + 4, N + 2, N + 3, N, N + 1], N + 4, rfl, S1.te S2, I2, ⟨N + 2, N + 3, N, N + 1, l1, l2, xs, ys, vs1, vs2, ep1, ep2, rfl, ?_, hz, hTI, ⟨_, _, hTO⟩, i1, i2, (L.fz _ _ g1 c1).2, (L.fz _ _ g2 c2).2, (L.fz _ _ g1 c1).1, (L.fz _ _ g2 c2).1,
            q1.lasts L, q2.lasts L, rfl⟩, fun b hb => ⟨?_, ?_⟩, fun b hb => fresh S1 (old (hmem b hb))⟩
          · exact ⟨ap 2 4 (by decide), ap 3 4 (by decide), ap 0 4 (by decide), ap 1 4 (by decide), ap 2 3 (by decide), ap 2 0 (by decide), ap 2 1 (by decide), ap 3 0 (by decide), ap 3 1 (by decide), ap 0 1 (by decide),
              la 4 lt1, la 3 lt1, la 0 lt1, la 1 lt1, la 4 lt2, la 3 lt2, la 0 lt2, la 1 lt2⟩
          · exact if_neg (by rw [old (hmem b hb)]; simp)
          · simp only [List.mem_cons, List.not_mem_nil, or_false] at hb
            rcases hb with rfl | rfl | rfl | rfl | rfl
            · show (h'.get? _).isSome; rw [hz]; rfl
            · show (h'.get? _).isSome; rw [hTI]; rfl
            · show (h'.get? _).isSome; rw [hTO]; rfl
            · obtain ⟨o, ho, _⟩ := i1; show (h'.get? _).isSome; rw [ho]; rfl
            · obtain ⟨o, ho, _⟩ := i2; show (h'.get? _).isSome; rw [ho]; rfl
        · cases e
      · simp only [Option.map_eq_some_iff] at e
        obtain ⟨⟨v, σ3⟩, hv, e⟩ := e
        simp only [Prod.mk.injEq] at e
        obtain ⟨rfl, rfl⟩ := e
        exact val v hv rfl
    · simp only [Option.map_eq_some_iff] at e
      obtain ⟨⟨v, σ3⟩, hv, e⟩ := e
      simp only [Prod.mk.injEq] at e
      obtain ⟨rfl, rfl⟩ := e
      exact val v hv rfl
    · cases e
  exact wpAny_Name z.2 z.1
end
end Mine
namespace Mine
open PySem
/-- how a statement ends -/
def FlR (T : Tp) (h : Heap) (κ : Addr → Col) (γ : Nat → Addr) (n : Nat) : Fl → Flow → Prop
  | .next, f => f = .next
  | .brk, f => f = .brk
  | .cont, f => f = .cont
  | .ret v, f => ∃ u, f = .ret u ∧ Rep T h κ γ n v u
def ExP (T : Tp) (env : Env) (sc : Scope) (s : Shared) (κ : Addr → Col) (γ : Nat → Addr) (n : Nat) (fl : Fl) (m' : Fm) (σ' : Sto) (f : Flow) (s' : Shared) : Prop :=
  ∃ κ' γ', Step (Ps (Owns env sc)) s κ γ n s' κ' γ' σ'.nx ∧ Inv T s' κ' γ' σ' ∧ FrOk T env sc m' s'.heap κ' γ' σ'.nx ∧ FlR T s'.heap κ' γ' σ'.nx fl f
section
variable (T : Tp) (c : Cfg) (Φ : Fns) (k : Nat)
def ExOk (st : Stmt) : Prop := ∀ (A : Around) (env : Env) (sc : Scope) (m : Fm) (s : Shared) (κ : Addr → Col) (γ : Nat → Addr) (σ : Sto) (fl : Fl) (m' : Fm) (σ' : Sto),
  AOk A k → Inv T s κ γ σ → FrOk T env sc m s.heap κ γ σ.nx → ex c Φ st sc m σ = some (fl, m', σ') → wpAny (model T.prog T.w) A (exec st env) (ExP T env sc s κ γ σ.nx fl m' σ') NoE s
def ExsOk (ss : List Stmt) : Prop := ∀ (A : Around) (env : Env) (sc : Scope) (m : Fm) (s : Shared) (κ : Addr → Col) (γ : Nat → Addr) (σ : Sto) (fl : Fl) (m' : Fm) (σ' : Sto),
  AOk A k → Inv T s κ γ σ → FrOk T env sc m s.heap κ γ σ.nx → exs c Φ ss sc m σ = some (fl, m', σ') → wpAny (model T.prog T.w) A (execs ss env) (ExP T env sc s κ γ σ.nx fl m' σ') NoE s
end
section
variable {T : Tp} {c : Cfg} {Φ : Fns} {k : Nat} {A : Around} {env : Env} {sc : Scope} {m m' : Fm} {s s' s'' : Shared} {κ κ' : Addr → Col} {γ γ' : Nat → Addr} {σ σ' : Sto} {n n' : Nat}
theorem ExP.then {fl : Fl} {f : Flow} (S : Step (Ps (Owns env sc)) s κ γ n s' κ' γ' n') (h : ExP T env sc s' κ' γ' n' fl m' σ' f s'') : ExP T env sc s κ γ n fl m' σ' f s'' := by
  obtain ⟨a, b, c, d⟩ := h
  exact ⟨a, b, S.ts c, d⟩
theorem break_ok {p : Pos} : ExOk T c Φ k (.Break p) := by
  intro A env sc m s κ γ σ fl m' σ' hA I F e
  simp [ex] at e
  obtain ⟨rfl, rfl, rfl⟩ := e
  exact wpAny_Break ⟨κ, γ, .refl, I, F, rfl⟩
theorem continue_ok {p : Pos} : ExOk T c Φ k (.Continue p) := by
  intro A env sc m s κ γ σ fl m' σ' hA I F e
  simp [ex] at e
  obtain ⟨rfl, rfl, rfl⟩ := e
  exact wpAny_Continue ⟨κ, γ, .refl, I, F, rfl⟩
theorem return_ok {x : Expr} {p : Pos} (hx : EvOk T c Φ k x) : ExOk T c Φ k (.Return (some x) p) := by
  intro A env sc m s κ γ σ fl m' σ' hA I F e
  simp only [ex, Option.map_eq_some_iff] at e
  obtain ⟨⟨v, σ1⟩, h1, e⟩ := e
  simp only [Prod.mk.injEq] at e
  obtain ⟨rfl, rfl, rfl⟩ := e
  refine wpAny_Return_some (wpAny_mono (hx A env sc m s κ γ σ v σ1 hA I F h1) (fun u s₁ q => ?_) fun _ _ z => z)
  obtain ⟨κ1, γ1, S1, I1, R1⟩ := q
  exact ⟨κ1, γ1, S1.ps, I1, F.step S1, u, rfl, R1⟩
theorem if_ok {t : Expr} {a b : List Stmt} {p : Pos} (ht : TrOk T c Φ k t) (ha : ExsOk T c Φ k a) (hb : ExsOk T c Φ k b) : ExOk T c Φ k (.If t a b p) := by
  intro A env sc m s κ γ σ fl m' σ' hA I F e
  simp only [ex, Option.bind_eq_some_iff] at e
  obtain ⟨⟨x, σ1⟩, h1, e⟩ := e
  refine wpAny_If (wpAny_mono (ht A env sc m s κ γ σ x σ1 hA I F h1) (fun y s₁ q => ?_) fun _ _ z => z)
  obtain ⟨κ1, γ1, S1, I1, rfl⟩ := q
  cases y
  · simp only [Bool.false_eq_true, if_false] at e ⊢
    exact wpAny_mono (hb A env sc m s₁ κ1 γ1 σ1 fl m' σ' hA I1 (F.step S1) e) (fun _ _ z => ExP.then S1.ps z) fun _ _ z => z
  · simp only [if_true] at e ⊢
    exact wpAny_mono (ha A env sc m s₁ κ1 γ1 σ1 fl m' σ' hA I1 (F.step S1) e) (fun _ _ z => ExP.then S1.ps z) fun _ _ z => z
theorem FrOk.remap {h : Heap} {x : Str} {v v' : AV} (F : FrOk T env sc m h κ γ n) (hx : m x = some v) (hr : ∀ u, Rep T h κ γ n v u → Rep T h κ γ n v' u) : FrOk T env sc (m.set x v') h κ γ n := by
  refine ⟨F.kind, F.glo, F.bui, F.cls, F.col, ?_, fun y w e q => ?_, F.own, F.inj, F.ownk, F.fre⟩
  · obtain ⟨mL, N, q⟩ := F.ns
    refine ⟨mL, N, fun y w e hk => ?_⟩
    unfold Fm.set at e
    split at e
    · rename_i hy
      subst hy
      injection e with e
      subst e
      obtain ⟨u, h1, h2⟩ := q y v hx hk
      exact ⟨u, h1, hr u h2⟩
    · exact q y w e hk
  · unfold Fm.set at e
    split at e
    · rename_i hy
      subst hy
      injection e with e
      subst e
      obtain ⟨a, u, L, h1, h2, h3, h4⟩ := F.cel y v hx q
      exact ⟨a, u, L, h1, h2, h3, hr u h4⟩
    · exact F.cel y w e q
/-- a location is let be: what it holds changes no more -/
theorem freeze_ok {W : Addr → Prop} (I : Inv T s κ γ σ) (F : FrOk T env sc m s.heap κ γ σ.nx) {x : Str} (e : freezeA x m σ = some (m', σ')) :
    ∃ κ', Step (Ps W) s κ γ σ.nx s κ' γ σ'.nx ∧ Inv T s κ' γ σ' ∧ FrOk T env sc m' s.heap κ' γ σ'.nx := by
  unfold freezeA at e
  split at e
  · rename_i l hx
    split at e
    · rename_i xs hg
      simp only [Option.some.injEq, Prod.mk.injEq] at e
      obtain ⟨rfl, rfl⟩ := e
      obtain ⟨hl, vs, ep, hc, g, b, q⟩ := I.objs _ _ hg
      have hne : ∀ {a : Addr} {cc : Col}, κ a = cc → cc ≠ .ob l → upc κ (γ l) .fz a = cc := fun {a cc} h1 h2 => by
        rw [upc_ne (by rintro rfl; exact h2 (h1.symm.trans hc))]; exact h1
      have L : Lasts s.heap κ γ σ.nx s.heap (upc κ (γ l) .fz) γ σ.nx := ⟨fun a o e q => ⟨e, hne q (by intro c; cases c)⟩, fun _ _ => rfl, Nat.le_refl _⟩
      refine ⟨upc κ (γ l) .fz, ⟨fun _ _ e _ => e, fun _ e => e, fun a _ hob => hne rfl (by intro c; rw [c] at hob; cases hob), fun _ _ => rfl, Nat.le_refl _, rfl, rfl⟩, ⟨fun a o e => ?_, fun l' o e => ?_⟩, ?_⟩
      · have z := I.base a o e
        exact ⟨z.1, hne z.2 (by intro c; cases c)⟩
      · simp only [Sto.forget] at e
        split at e
        · cases e
        · rename_i hl'
          have z := I.objs l' o e
          exact ⟨z.1, z.2.lasts L z.1 fun a o q g => ⟨g, hne q (by intro c; injection c with c; exact hl' c)⟩⟩
      · refine (F.keeps L fun a o L' e q => ⟨e, hne q (by intro c; cases c)⟩).remap hx fun u r => ?_
        obtain ⟨rfl, _⟩ := r
        exact ⟨_, vs, ep, rfl, upc_self, g, b, q.lasts L⟩
    · cases e
  · cases e
theorem freezes_ok {W : Addr → Prop} : ∀ {xs : List Str} {m m' : Fm} {κ : Addr → Col} {σ σ' : Sto}, Inv T s κ γ σ → FrOk T env sc m s.heap κ γ σ.nx → freezes xs m σ = some (m', σ') →
    ∃ κ', Step (Ps W) s κ γ σ.nx s κ' γ σ'.nx ∧ Inv T s κ' γ σ' ∧ FrOk T env sc m' s.heap κ' γ σ'.nx
  | [], m, m', κ, σ, σ', I, F, e => by
    simp [freezes] at e
    obtain ⟨rfl, rfl⟩ := e
    exact ⟨κ, .refl, I, F⟩
  | x :: xs, m, m', κ, σ, σ', I, F, e => by
    simp only [freezes, Option.bind_eq_bind, Option.bind_eq_some_iff] at e
    obtain ⟨⟨m1, σ1⟩, h1, e⟩ := e
    obtain ⟨κ1, S1, I1, F1⟩ := freeze_ok (W := W) I F h1
    obtain ⟨κ2, S2, I2, F2⟩ := freezes_ok (W := W) I1 F1 e
    exact ⟨κ2, S1.ts S2, I2, F2⟩
theorem exs_nil : ExsOk T c Φ k [] := by
  intro A env sc m s κ γ σ fl m' σ' hA I F e
  simp [exs] at e
  obtain ⟨rfl, rfl, rfl⟩ := e
  exact wpAny_execs_nil ⟨κ, γ, .refl, I, F, rfl⟩
theorem exs_cons {st : Stmt} {ss : List Stmt} (h1 : ExOk T c Φ k st) (h2 : ExsOk T c Φ k ss) : ExsOk T c Φ k (st :: ss) := by
  intro A env sc m s κ γ σ fl m' σ' hA I F e
  simp only [exs, Option.bind_eq_some_iff] at e
  obtain ⟨⟨m0, σ0⟩, hf, ⟨fl1, m1, σ1⟩, hx, e⟩ := e
  obtain ⟨κ0, S0, I0, F0⟩ := freezes_ok (W := Owns env sc) I F hf
  refine wpAny_execs_cons (wpAny_mono (h1 A env sc m0 s κ0 γ σ0 fl1 m1 σ1 hA I0 F0 hx) (fun f s₁ q => ?_) fun _ _ z => z)
  obtain ⟨κ1, γ1, S1, I1, F1, r⟩ := q
  cases fl1 with
  | next =>
    simp only [FlR] at r
    subst r
    simp only at e ⊢
    exact wpAny_mono (h2 A env sc m1 s₁ κ1 γ1 σ1 fl m' σ' hA I1 F1 e) (fun _ _ z => ExP.then (S0.ts S1) z) fun _ _ z => z
  | brk =>
    simp only [FlR] at r
    subst r
    simp at e
    obtain ⟨rfl, rfl, rfl⟩ := e
    exact ⟨κ1, γ1, S0.ts S1, I1, F1, rfl⟩
  | cont =>
    simp only [FlR] at r
    subst r
    simp at e
    obtain ⟨rfl, rfl, rfl⟩ := e
    exact ⟨κ1, γ1, S0.ts S1, I1, F1, rfl⟩
  | ret v =>
    obtain ⟨u, rfl, ru⟩ := r
    simp at e
    obtain ⟨rfl, rfl, rfl⟩ := e
    exact ⟨κ1, γ1, S0.ts S1, I1, F1, u, rfl, ru⟩
theorem while_ok {t : Expr} {b : List Stmt} {p : Pos} (ht : TrOk T c Φ k t) (hb : ExsOk T c Φ k b) : ExOk T c Φ k (.While t b [] p) := by
  intro A env sc m s κ γ σ fl m' σ' hA I F e
  simp only [ex] at e
  refine wpAny_While ?_
  refine codeAny_whileLoop (fun n s₁ => ∃ κ1 γ1 σ1 m1, Step (Ps (Owns env sc)) s κ γ σ.nx s₁ κ1 γ1 σ1.nx ∧ Inv T s₁ κ1 γ1 σ1 ∧ FrOk T env sc m1 s₁.heap κ1 γ1 σ1.nx ∧
    whileA (fun s : Fm × Sto => (tr c Φ t (ev c Φ t sc) sc s.1 s.2).map fun r => (r.1, s.1, r.2)) (fun s => exs c Φ b sc s.1 s.2) n (m1, σ1) = some (fl, m', σ')) ?_ c.fuel ⟨κ, γ, σ, m, .refl, I, F, e⟩
  rintro n s₁ ⟨κ1, γ1, σ1, m1, S1, I1, F1, hrun⟩
  cases n with
  | zero => simp [whileA] at hrun
  | succ n =>
    simp only [whileA] at hrun
    cases h1 : tr c Φ t (ev c Φ t sc) sc m1 σ1 with
    | none => simp [h1] at hrun
    | some r =>
      obtain ⟨b1, σ2⟩ := r
      simp only [h1, Option.map_some] at hrun
      refine wpAny_mono (ht A env sc m1 s₁ κ1 γ1 σ1 b1 σ2 hA I1 F1 h1) (fun y s₂ q => ?_) fun _ _ z => z.elim
      obtain ⟨κ2, γ2, S2, I2, rfl⟩ := q
      have F2 := F1.step S2
      have S02 := S1.ts S2.ps
      cases y with
      | false =>
        simp only [Option.some.injEq, Prod.mk.injEq] at hrun
        obtain ⟨rfl, rfl, rfl⟩ := hrun
        simp only [Bool.false_eq_true, if_false]
        exact wpAny_execs_nil ⟨κ2, γ2, S02, I2, F2, rfl⟩
      | true =>
        simp only [if_true]
        cases h2 : exs c Φ b sc m1 σ2 with
        | none => simp [h2] at hrun
        | some r =>
          obtain ⟨fl3, m3, σ3⟩ := r
          simp only [h2] at hrun
          refine wpAny_mono (hb A env sc m1 s₂ κ2 γ2 σ2 fl3 m3 σ3 hA I2 F2 h2) (fun f s₃ q => ?_) fun _ _ z => z.elim
          obtain ⟨κ3, γ3, S3, I3, F3, r3⟩ := q
          have S03 := S02.ts S3
          cases fl3 with
          | next =>
            simp only [FlR] at r3
            subst r3
            exact ⟨n, Nat.lt_succ_self _, κ3, γ3, σ3, m3, S03, I3, F3, hrun⟩
          | cont =>
            simp only [FlR] at r3
            subst r3
            exact ⟨n, Nat.lt_succ_self _, κ3, γ3, σ3, m3, S03, I3, F3, hrun⟩
          | brk =>
            simp only [FlR] at r3
            subst r3
            simp only [Option.some.injEq, Prod.mk.injEq] at hrun
            obtain ⟨rfl, rfl, rfl⟩ := hrun
            exact ⟨κ3, γ3, S03, I3, F3, rfl⟩
          | ret v =>
            obtain ⟨u, rfl, ru⟩ := r3
            simp only [Option.some.injEq, Prod.mk.injEq] at hrun
            obtain ⟨rfl, rfl, rfl⟩ := hrun
            exact ⟨κ3, γ3, S03, I3, F3, u, rfl, ru⟩
end
end Mine
namespace Mine
open PySem
theorem forLoop_wp {prog : Program} {w : World} {A : Around} {env : Env} {t : Expr} {it : Value} {body : List Stmt} {R : Result → Shared → Prop} {s : Shared} (I : Nat → Shared → Prop)
    (turn : ∀ n s, I n s → wpAny (model prog w) A (pyNext it) (fun r s₁ => match r with
      | none => R (.ok .next) s₁
      | some v => wpAny (model prog w) A (letOwnedTupleGo t it v) (fun _ s₂ => wpAny (model prog w) A (assign t env v) (fun _ s₃ => wpAny (model prog w) A (execs body env) (fun f s₄ => match f with
          | .next | .cont => ∃ m, m < n ∧ I m s₄
          | .brk => R (.ok .next) s₄
          | .ret v => R (.ok (.ret v)) s₄) NoE s₃) NoE s₂) NoE s₁) NoE s)
    (n : Nat) (h : I n s) : codeAny (model prog w) A (.forLoop t it body [] env) R s := by
  refine codeAny_loop' rfl I (fun n s hI => ?_) n h
  show wpAny _ A ((forTurn t it body [] env).onRaise (fun x => do noteFrame x env; theTreesLotGoes x)) _ _ s
  refine wpAny_onRaise (wpAny_mono (Q := fun fin s' => match fin with
        | .done f => R (.ok f) s'
        | .again c' => (c' = .forLoop t it body [] env ∧ ∃ m, m < n ∧ I m s') ∨ (c'.quiet = true ∧ codeAny (model prog w) A c' R s')) (E := NoE) ?_ (fun _ _ q => q) fun _ _ z => z.elim)
  unfold forTurn
  refine wpAny_bind (wpAny_standAt (wpAny_bind (wpAny_onRaise (wpAny_mono (turn n s hI) (fun r s₁ h₁ => ?_) fun _ _ z => z.elim))))
  cases r with
  | none => exact wpAny_pure (.inr ⟨rfl, codeAny_block (wpAny_execs_nil h₁)⟩)
  | some v =>
    refine wpAny_bind (wpAny_mono h₁ (fun _ s₂ h₂ => wpAny_bind (wpAny_mono h₂ (fun _ s₃ h₃ => wpAny_bind (wpAny_mono h₃ (fun f s₄ h₄ => ?_) fun _ _ z => z)) fun _ _ z => z)) fun _ _ z => z)
    cases f with
    | next => exact wpAny_pure (.inl ⟨rfl, h₄⟩)
    | cont => exact wpAny_pure (.inl ⟨rfl, h₄⟩)
    | brk => exact wpAny_pure h₄
    | ret v => exact wpAny_pure h₄
section
variable {T : Tp} {c : Cfg} {Φ : Fns} {k : Nat}
theorem for_ok {t x : Expr} {b : List Stmt} {p : Pos} (hx : EvOk T c Φ k x) (hb : ExsOk T c Φ k b) : ExOk T c Φ k (.For t x b [] p) := by
  intro A env sc m s κ γ σ fl m' σ' hA I F e
  simp only [ex, Option.bind_eq_some_iff] at e
  obtain ⟨⟨v, σ1⟩, h1, xs, hxs, e⟩ := e
  have hxs' : items? σ1 v = some xs := hxs
  refine wpAny_For (wpAny_mono (hx A env sc m s κ γ σ v σ1 hA I F h1) (fun u s₁ q => ?_) fun _ _ z => z) (fun y => folded_plain h1 env y)
  obtain ⟨κ1, γ1, S1, I1, R1⟩ := q
  refine iter_ok I1 R1 hxs' fun o hnone S2 I2 hO2 it2 => ?_
  have F2 := (F.step S1).step S2
  have hnew : ∀ b ∈ [s₁.heap.objs.size], s.heap.get? b = none := fun b hb => by
    rw [List.mem_singleton.mp hb]
    cases e : s.heap.get? s₁.heap.objs.size with
    | none => rfl
    | some o' => have := S1.alive _ (by rw [e]; rfl : (s.heap.get? s₁.heap.objs.size).isSome); rw [hnone] at this; cases this
  refine forLoop_wp (fun n s₃ => ∃ κ3 γ3 σ3 m3 i, Step (Ps (Owns env sc)) s κ γ σ.nx s₃ κ3 γ3 σ3.nx ∧ Inv T s₃ κ3 γ3 σ3 ∧ FrOk T env sc m3 s₃.heap κ3 γ3 σ3.nx ∧ ItOk T s₃.heap κ3 γ3 σ3.nx [s₁.heap.objs.size] i s₁.heap.objs.size (.val v) ∧ Tmps s₃.heap κ3 [s₁.heap.objs.size] ∧
    iterA (fun s : Fm × Sto => items? s.2 v) (fun w s => (bindT sc t w s.1).bind fun m => exs c Φ b sc m s.2) n i (m3, σ3) = some (fl, m', σ')) ?_ xs.length ⟨_, γ1, σ1, m, 0, (S1.te S2).ps, I2, F2, it2, hO2, e⟩
  rintro n s₃ ⟨κ3, γ3, σ3, m3, i, S3, I3, F3, it3, hO3, hrun⟩
  have fin : ∀ (s₄ : Shared) (κ4 : Addr → Col), Moved [s₁.heap.objs.size] s₃ κ3 s₄ κ4 → some (fl, m', σ') = some (Fl.next, m3, σ3) → ExP T env sc s κ γ σ.nx fl m' σ' .next s₄ := fun s₄ κ4 M q => by
    simp only [Option.some.injEq, Prod.mk.injEq] at q
    obtain ⟨rfl, rfl, rfl⟩ := q
    exact ⟨κ4, γ3, M.step S3 hnew, M.inv hO3 I3, M.fr hO3 F3, rfl⟩
  cases n with
  | zero =>
    simp only [iterA, Option.bind_eq_bind, Option.bind_eq_some_iff] at hrun
    obtain ⟨ys, hys, hrun⟩ := hrun
    split at hrun
    · rename_i hle
      refine wpAny_mono (next_ok (t := t) hA.handled I3 it3 hO3 (show Src.items σ3 (.val v) = some ys from hys) rfl) (fun r s₄ q => ?_) fun _ _ z => z
      rw [List.getElem?_eq_none hle] at q
      obtain ⟨rfl, M⟩ := q
      exact fin _ _ M hrun.symm
    · cases hrun
  | succ n =>
    simp only [iterA, Option.bind_eq_bind, Option.bind_eq_some_iff] at hrun
    obtain ⟨ys, hys, hrun⟩ := hrun
    refine wpAny_mono (next_ok (t := t) hA.handled I3 it3 hO3 (show Src.items σ3 (.val v) = some ys from hys) rfl) (fun r s₄ q => ?_) fun _ _ z => z
    cases hy : ys[i]? with
    | none =>
      rw [hy] at q hrun
      obtain ⟨rfl, M⟩ := q
      exact fin _ _ M hrun.symm
    | some y =>
      rw [hy] at q hrun
      obtain ⟨u', κ4, rfl, q⟩ := q
      simp only at hrun ⊢
      cases hbd : bindT sc t y m3 with
      | none => simp [hbd] at hrun
      | some m4 =>
        cases hex : exs c Φ b sc m4 σ3 with
        | none => simp [hbd, hex] at hrun
        | some r =>
          obtain ⟨fl5, m5, σ5⟩ := r
          simp only [hbd, hex, Option.bind_some] at hrun
          refine wpAny_mono q (fun _ s₅ q => ?_) fun _ _ z => z
          obtain ⟨M, hO5, it5, rx⟩ := q
          have I5 := M.inv hO3 I3
          have F5 := M.fr hO3 F3
          have S5 := M.step S3 hnew
          refine wpAny_mono (bindT_ok (W := Owns env sc) hA.handled (fun _ h => h) I5 F5 rx hbd) (fun _ s₆ q => ?_) fun _ _ z => z
          obtain ⟨S6, I6, F6⟩ := q
          have hOw5 : ∀ b ∈ [s₁.heap.objs.size], ¬ Owns env sc b := fun b hb x => by obtain ⟨L, q⟩ := Owns.col F5 x; rw [(hO5 b hb).1] at q; cases q
          have it6 := it5.steps hO5 hOw5 S6
          have hO6 := S6.tmps hO5
          have hOw6 : ∀ b ∈ [s₁.heap.objs.size], ¬ Owns env sc b := fun b hb x => by obtain ⟨L, q⟩ := Owns.col F6 x; rw [(hO6 b hb).1] at q; cases q
          refine wpAny_mono (hb A env sc m4 s₆ κ4 γ3 σ3 fl5 m5 σ5 hA I6 F6 hex) (fun f s₇ q => ?_) fun _ _ z => z
          obtain ⟨κ7, γ7, S7, I7, F7, r7⟩ := q
          have S07 := (S5.ts S6).ts S7
          cases fl5 with
          | next =>
            simp only [FlR] at r7
            subst r7
            exact ⟨n, Nat.lt_succ_self _, κ7, γ7, σ5, m5, i + 1, S07, I7, F7, it6.steps hO6 hOw6 S7, S7.tmps hO6, hrun⟩
          | cont =>
            simp only [FlR] at r7
            subst r7
            exact ⟨n, Nat.lt_succ_self _, κ7, γ7, σ5, m5, i + 1, S07, I7, F7, it6.steps hO6 hOw6 S7, S7.tmps hO6, hrun⟩
          | brk =>
            simp only [FlR] at r7
            subst r7
            simp only [Option.some.injEq, Prod.mk.injEq] at hrun
            obtain ⟨rfl, rfl, rfl⟩ := hrun
            exact ⟨κ7, γ7, S07, I7, F7, rfl⟩
          | ret v =>
            obtain ⟨u, rfl, ru⟩ := r7
            simp only [Option.some.injEq, Prod.mk.injEq] at hrun
            obtain ⟨rfl, rfl, rfl⟩ := hrun
            exact ⟨κ7, γ7, S07, I7, F7, u, rfl, ru⟩
end
end Mine
namespace Mine
open PySem
theorem swaps_eq (value t : Expr) (line : Nat) (env : Env) : ∃ b, swapsWith value (some t) line env = pure b ∧ (b = true → isComp value = true ∧ ∃ x p, t = .Name x p) := by
  cases value with
  | ListComp a b sc p => cases t with
    | Name x p => exact ⟨_, rfl, fun _ => ⟨rfl, x, p, rfl⟩⟩
    | _ => exact ⟨false, rfl, fun h => by cases h⟩
  | SetComp a b sc p => cases t with
    | Name x p => exact ⟨_, rfl, fun _ => ⟨rfl, x, p, rfl⟩⟩
    | _ => exact ⟨false, rfl, fun h => by cases h⟩
  | DictComp a b d sc p => cases t with
    | Name x p => exact ⟨_, rfl, fun _ => ⟨rfl, x, p, rfl⟩⟩
    | _ => exact ⟨false, rfl, fun h => by cases h⟩
  | _ => exact ⟨false, rfl, fun h => by cases h⟩
section
variable {T : Tp} {c : Cfg} {Φ : Fns} {k : Nat} {A : Around} {env : Env} {sc : Scope} {m m' : Fm} {s s' s'' : Shared} {κ κ' : Addr → Col} {γ γ' : Nat → Addr} {σ σ' : Sto} {n n' : Nat}
theorem expr_ok {x : Expr} {p : Pos} (hx : EvOk T c Φ k x) : ExOk T c Φ k (.Expr x p) := by
  intro A env sc m s κ γ σ fl m' σ' hA I F e
  simp only [ex] at e
  split at e
  · rename_i hc
    simp only [Option.map_eq_some_iff] at e
    obtain ⟨⟨v, σ1⟩, h1, e⟩ := e
    simp only [Prod.mk.injEq] at e
    obtain ⟨rfl, rfl, rfl⟩ := e
    have hs : swapsWith x none p.line env = pure false := by
      cases x <;> first | rfl | simp [isComp] at hc
    rw [exec_Expr (env := env) (e := x) (pos := p) (hi := by unfold interactive; rw [F.kind]; rfl) (hs := hs)]
    refine wpAny_bind (wpAny_standAt (wpAny_bind (wpAny_mono (hx A env sc m s κ γ σ v σ1 hA I F h1) (fun u s₁ q => ?_) fun _ _ z => z)))
    obtain ⟨κ1, γ1, S1, I1, R1⟩ := q
    exact wpAny_dropValue ⟨κ1, γ1, S1.ps, I1, F.step S1, rfl⟩
  · cases e
/-- a value is stored into a target by the plain road -/
theorem store_plain (hA : A.handled = none) {t : Expr} {v : AV} {u : Value} (I : Inv T s κ γ σ) (F : FrOk T env sc m s.heap κ γ σ.nx) (r : Rep T s.heap κ γ σ.nx v u) (e : bindT sc t v m = some m') :
    wpAny (model T.prog T.w) A (assignAll u ((assignEach [t] env).map (·.2))) (fun _ s' => Step (Ps (Owns env sc)) s κ γ σ.nx s' κ γ σ.nx ∧ Inv T s' κ γ σ ∧ FrOk T env sc m' s'.heap κ γ σ.nx) NoE s := by
  cases t with
  | Name x p => exact bindT_ok hA (fun _ h => h) I F r e
  | Tuple ts j p => exact bindT_ok hA (fun _ h => h) I F r e
  | _ => simp [bindT] at e
theorem bindName_ok (I : Inv T s κ γ σ) (F : FrOk T env sc m s.heap κ γ σ.nx) {x : Str} {v : AV} {u : Value} (hx : mayBind sc x) (r : Rep T s.heap κ γ σ.nx v u) :
    wpAny (model T.prog T.w) A (bindName env x u) (fun _ s' => Step (Ps (Owns env sc)) s κ γ σ.nx s' κ γ σ.nx ∧ Inv T s' κ γ σ ∧ FrOk T env sc (m.set x v) s'.heap κ γ σ.nx) NoE s :=
  wpAny_bindName (bind_ok I F hx r fun s' S I' F' => ⟨S, I', F'⟩)
/-- names are bound one behind the other, from the last -/
theorem bindEach_ok : ∀ {xs : List Str} {vs : List AV} {us : List Value} {m : Fm} {s : Shared}, Inv T s κ γ σ → FrOk T env sc m s.heap κ γ σ.nx → (∀ x ∈ xs, mayBind sc x) → xs.length = vs.length → RepL T s.heap κ γ σ.nx vs us →
    wpAny (model T.prog T.w) A (assignInOrder (xs.map fun n => bindName env n) us) (fun _ s' => Step (Ps (Owns env sc)) s κ γ σ.nx s' κ γ σ.nx ∧ Inv T s' κ γ σ ∧ FrOk T env sc ((xs.zip vs).foldl (fun m p => m.set p.1 p.2) m) s'.heap κ γ σ.nx) NoE s
  | [], vs, us, m, s, I, F, hx, hl, r => PyProof.Rows.assignInOrder_nil ⟨.refl, I, by simpa using F⟩
  | x :: xs, [], us, m, s, I, F, hx, hl, r => by simp at hl
  | x :: xs, v :: vs, us, m, s, I, F, hx, hl, r => by
    obtain ⟨u, us, rfl, r1, r2⟩ := r
    refine PyProof.Rows.assignInOrder_cons (wpAny_mono (bindName_ok I F (hx x List.mem_cons_self) r1) (fun _ s₁ q => ?_) fun _ _ z => z)
    obtain ⟨S1, I1, F1⟩ := q
    refine wpAny_mono (bindEach_ok (vs := vs) I1 F1 (fun y hy => hx y (List.mem_cons_of_mem _ hy)) (by simpa using hl) (r2.steps S1)) (fun _ s₂ q => ⟨S1.ts q.1, q.2⟩) fun _ _ z => z
end
end Mine
namespace Mine
open PySem
def nameOf : Expr → Option Str
  | .Name x _ => some x
  | _ => none
theorem eraseDups_nodup : ∀ (n : Nat) (l : List Str), l.length ≤ n → l.eraseDups.length ≤ l.length ∧ (l.eraseDups.length = l.length → l.Nodup)
  | _, [], _ => by simp
  | 0, x :: xs, h => by simp at h
  | n + 1, x :: xs, h => by
    rw [List.eraseDups_cons]
    have hf : (xs.filter fun b => !b == x).length ≤ xs.length := List.length_filter_le _ _
    have hle : (xs.filter fun b => !b == x).length ≤ n := by simp at h; omega
    have ih := eraseDups_nodup n (xs.filter fun b => !b == x) hle
    refine ⟨by simp; omega, fun e => ?_⟩
    simp only [List.length_cons, Nat.add_right_cancel_iff] at e
    have e1 : (xs.filter fun b => !b == x).length = xs.length := by omega
    have e2 : xs.filter (fun b => !b == x) = xs := List.length_filter_eq_length_iff.mp e1 |> List.filter_eq_self.mpr
    rw [e2] at ih e
    refine List.nodup_cons.mpr ⟨fun hm => ?_, ih.2 e⟩
    have := List.length_filter_eq_length_iff.mp e1 x hm
    simp at this
theorem filterMap_full {α β : Type} (f : α → Option β) : ∀ l : List α, (l.filterMap f).length = l.length → l.map f = (l.filterMap f).map some
  | [], _ => rfl
  | x :: xs, h => by
    have hle : (xs.filterMap f).length ≤ xs.length := List.length_filterMap_le _ _
    cases hf : f x with
    | none => simp [hf] at h; omega
    | some y =>
      simp only [List.filterMap_cons, hf, List.length_cons, Nat.add_right_cancel_iff] at h
      simp only [List.map_cons, List.filterMap_cons, hf, filterMap_full f xs h]
theorem swapped_eq {t e : Expr} (h : okStores t e = true) (ht : ∀ ts p, t ≠ .List ts p) (env : Env) : swappedStores [t] e env = pure none ∨
    ∃ ts j p names, t = .Tuple ts j p ∧ ts.map nameOf = names.map some ∧ names.Nodup ∧ swappedStores [t] e env = pure (some names) := by
  have main : ∀ (ts vs : List Expr), (!vs.all (constantsAlone 8)) = true → ∀ r : Sem (Option (List Str)), r = (do
      if !(ts.length == 2 || ts.length == 3) || vs.length != ts.length || env.blockKind != .function then return none
      if vs.any fun | .Starred .. => true | _ => false then return none
      let line := (ts.head?.map (·.pos.line)).getD 0
      let names := ts.filterMap fun
        | .Name id pos => if env.kindOf id == some .local && pos.line == line then some id else none
        | _ => none
      if names.length != ts.length || names.eraseDups.length != names.length then return none
      if vs.all (foldedForSure 8) then return none
      if vs.all (constantsAlone 8) then unsupported "assign.tuple-of-constant-expressions:order-of-the-stores"
      return some names) → r = pure none ∨ ∃ names, ts.map nameOf = names.map some ∧ names.Nodup ∧ r = pure (some names) := by
    intro ts vs hc r hr
    have hc' : vs.all (constantsAlone 8) = false := by simpa using hc
    subst hr
    split
    · exact .inl rfl
    · split
      · exact .inl rfl
      · dsimp only
        generalize hF : (fun (x : Expr) => (match x with
          | .Name id pos => if env.kindOf id == some .local && pos.line == (Option.map (fun x => x.pos.line) ts.head?).getD 0 then some id else none
          | _ => none : Option Str)) = F
        have hF' : ∀ x y, F x = some y → nameOf x = some y := by
          intro x y hy
          rw [← hF] at hy
          simp only at hy
          split at hy
          · split at hy
            · exact hy
            · cases hy
          · cases hy
        split
        · exact .inl rfl
        · rename_i hn
          simp only [Bool.or_eq_true, bne_iff_ne, ne_eq, not_or, Decidable.not_not] at hn
          split
          · exact .inl rfl
          · rw [hc']
            refine .inr ⟨ts.filterMap F, ?_, (eraseDups_nodup _ _ (Nat.le_refl _)).2 hn.2, rfl⟩
            have := filterMap_full F ts hn.1
            rw [← this]
            refine List.map_congr_left fun x hx => ?_
            have hx' : F x ∈ ts.map F := List.mem_map_of_mem hx
            rw [this] at hx'
            obtain ⟨y, _, hy⟩ := List.mem_map.mp hx'
            rw [← hy]
            exact hF' x y hy.symm
  cases t with
  | Tuple ts j p =>
    cases e with
    | Tuple vs j' p' =>
      rcases main ts vs h _ rfl with q | ⟨names, h1, h2, h3⟩
      · exact .inl q
      · exact .inr ⟨ts, j, p, names, rfl, h1, h2, h3⟩
    | _ => exact .inl rfl
  | List ts p => exact absurd rfl (ht ts p)
  | _ => exact .inl rfl
theorem bindNames_eq {sc : Scope} : ∀ {ts : List Expr} {vs : List AV} {m m' : Fm} {names : List Str}, bindNames sc ts vs m = some m' → ts.map nameOf = names.map some →
    (∀ x ∈ names, mayBind sc x) ∧ names.length = vs.length ∧ m' = (names.zip vs).foldl (fun m p => m.set p.1 p.2) m
  | [], vs, m, m', names, e, h => by
    cases names with
    | cons a b => simp at h
    | nil =>
      cases vs with
      | nil => simp [bindNames] at e; subst e; exact ⟨fun _ hx => (nomatch hx), rfl, rfl⟩
      | cons v vs => simp [bindNames] at e
  | t :: ts, vs, m, m', names, e, h => by
    cases t with
    | Name x p =>
      cases vs with
      | nil => simp [bindNames] at e
      | cons v vs =>
        cases names with
        | nil => simp at h
        | cons n names =>
          simp only [List.map_cons, nameOf, List.cons.injEq, Option.some.injEq] at h
          obtain ⟨rfl, h⟩ := h
          simp only [bindNames, Option.bind_eq_some_iff] at e
          obtain ⟨m1, h1, h2⟩ := e
          obtain ⟨hm, rfl⟩ := setv_may h1
          obtain ⟨a, b, c⟩ := bindNames_eq h2 h
          refine ⟨fun y hy => ?_, by simp [b], by simpa using c⟩
          rcases List.mem_cons.mp hy with rfl | hy
          · exact hm
          · exact a y hy
    | _ => cases vs <;> simp [bindNames] at e
theorem zip_rev {α β : Type} : ∀ (xs : List α) (ys : List β), xs.length = ys.length → xs.reverse.zip ys.reverse = (xs.zip ys).reverse := by
  intro xs ys h
  rw [List.zip_eq_zipWith, List.zip_eq_zipWith, List.reverse_zipWith h]
theorem zip_mem_inj {α β : Type} : ∀ {xs : List α} {ys : List β}, xs.Nodup → ∀ p ∈ xs.zip ys, ∀ q ∈ xs.zip ys, p.1 = q.1 → p = q
  | [], ys, _, p, hp, _, _, _ => by simp at hp
  | x :: xs, [], _, p, hp, _, _, _ => by simp at hp
  | x :: xs, y :: ys, hn, p, hp, q, hq, e => by
    have hn' := List.nodup_cons.mp hn
    simp only [List.zip_cons_cons, List.mem_cons] at hp hq
    have hin : ∀ {r : α × β}, r ∈ xs.zip ys → r.1 ∈ xs := fun {r} h => (List.of_mem_zip (a := r.1) (b := r.2) h).1
    rcases hp with rfl | hp <;> rcases hq with rfl | hq
    · rfl
    · exact absurd (by have := hin hq; rwa [← e] at this) hn'.1
    · exact absurd (by have := hin hp; rwa [e] at this) hn'.1
    · exact zip_mem_inj hn'.2 p hp q hq e
theorem sets_rev {names : List Str} {vs : List AV} (hn : names.Nodup) (hl : names.length = vs.length) (m : Fm) :
    (names.reverse.zip vs.reverse).foldl (fun m p => m.set p.1 p.2) m = (names.zip vs).foldl (fun m p => m.set p.1 p.2) m := by
  rw [zip_rev _ _ hl]
  refine List.Perm.foldl_eq' (List.reverse_perm _) (fun p hp q hq z => ?_) m
  have hp' := List.mem_reverse.mp hp
  have hq' := List.mem_reverse.mp hq
  by_cases e : p.1 = q.1
  · rw [zip_mem_inj hn p hp' q hq' e]
  · funext y
    unfold Fm.set
    by_cases h1 : y = p.1
    · subst h1; simp [e]
    · by_cases h2 : y = q.1
      · subst h2; simp [h1]
      · simp [h1, h2]
/-- a comprehension whose value is put to use at once -/
def UseOk (T : Tp) (c : Cfg) (Φ : Fns) (k : Nat) (e : Expr) : Prop := ∀ (A : Around) (env : Env) (sc : Scope) (m : Fm) (s : Shared) (κ : Addr → Col) (γ : Nat → Addr) (σ : Sto) (v : AV) (σ' : Sto) (us : Value → Sem Unit) (Q : Unit → Shared → Prop),
  AOk A k → Inv T s κ γ σ → FrOk T env sc m s.heap κ γ σ.nx → ev c Φ e sc m σ = some (v, σ') →
    (∀ D C s' κ' γ', Step Pe s κ γ σ.nx s' κ' γ' σ'.nx → Inv T s' κ' γ' σ' → Rep T s'.heap κ' γ' σ'.nx v (.ref D) → κ' C = .fr C → s.heap.get? C = none → (∃ mC, s'.heap.Ns C mC) →
      wpAny (model T.prog T.w) A (us (.ref D)) (fun _ s'' => ∃ mC, s''.heap.Ns C mC ∧ ∀ h', Heap.SameBut C s''.heap h' → Q () { s'' with heap := h' }) NoE s') →
    wpAny (model T.prog T.w) A (evalThenUse e env us) Q NoE s
section
variable {T : Tp} {c : Cfg} {Φ : Fns} {k : Nat} {A : Around} {env : Env} {sc : Scope} {m m' : Fm} {s s' s'' : Shared} {κ κ' : Addr → Col} {γ γ' : Nat → Addr} {σ σ' : Sto} {n n' : Nat}
theorem use_list {elt t iter : Expr} {ifs : List Expr} {gs : List Comprehension} {a : Int} {csc : Scope} {p : Pos} (hx : EvOk T c Φ k elt) (hi : SrcOk T c Φ k iter) (hifs : TrsOk T c Φ k ifs) (hg : GensOk T c Φ k gs) :
    UseOk T c Φ k (.ListComp elt (⟨t, iter, ifs, a⟩ :: gs) csc p) := by
  intro A env sc m s κ γ σ v σ' us Q hA I F e h
  have ha : a = 0 := by
    simp only [ev] at e
    split at e
    · rename_i h; exact h.1
    · cases e
  subst ha
  rw [arm_evalThenUse_ListComp]
  exact wpAny_bind (listcomp_run (use := some us) (Q := fun _ s' => wpAny _ A (pure ()) Q NoE s') hx hi hifs hg hA I F e fun D C s' κ' γ' h1 h2 h3 h4 h5 h6 =>
    wpAny_mono (h D C s' κ' γ' h1 h2 h3 h4 h5 h6) (fun _ s'' ⟨mC, q1, q2⟩ => ⟨mC, q1, fun h' hs => wpAny_pure (q2 h' hs)⟩) fun _ _ z => z)
theorem use_dict (O : TopOk T c) {kx vx t iter : Expr} {ifs : List Expr} {gs : List Comprehension} {a : Int} {csc : Scope} {p : Pos} (hk : EvOk T c Φ k kx) (hv : EvOk T c Φ k vx) (hi : SrcOk T c Φ k iter) (hifs : TrsOk T c Φ k ifs) (hg : GensOk T c Φ k gs) :
    UseOk T c Φ k (.DictComp kx vx (⟨t, iter, ifs, a⟩ :: gs) csc p) := by
  intro A env sc m s κ γ σ v σ' us Q hA I F e h
  have ha : a = 0 := by
    simp only [ev] at e
    split at e
    · rename_i h; exact h.1
    · cases e
  subst ha
  rw [arm_evalThenUse_DictComp]
  exact wpAny_bind (dictcomp_run (use := some us) (Q := fun _ s' => wpAny _ A (pure ()) Q NoE s') O hk hv hi hifs hg hA I F e fun D C s' κ' γ' h1 h2 h3 h4 h5 h6 =>
    wpAny_mono (h D C s' κ' γ' h1 h2 h3 h4 h5 h6) (fun _ s'' ⟨mC, q1, q2⟩ => ⟨mC, q1, fun h' hs => wpAny_pure (q2 h' hs)⟩) fun _ _ z => z)
/-- what is no comprehension with a clause is none at all -/
theorem use_none {e : Expr} (h : ∀ sc m σ, ev c Φ e sc m σ = none) : UseOk T c Φ k e := by
  intro A env sc m s κ γ σ v σ' us Q hA I F e
  rw [h] at e; cases e
theorem FrOk.apart (F : FrOk T env sc m s.heap κ γ n) {C : Addr} (hC : s.heap.get? C = none) : env.locals ≠ C ∧ ∀ x, kcls (sc.names.lookup x) = 2 → env.cells.lookup x ≠ some C := by
  refine ⟨?_, fun x hx e => ?_⟩
  · rintro rfl
    obtain ⟨mL, ⟨o, _, _, ho, _⟩, _⟩ := F.ns
    rw [hC] at ho; cases ho
  · rcases kcls2 hx with q | q
    · obtain ⟨a, u, h1, ⟨o, ho, _⟩, _⟩ := F.own x q
      rw [e] at h1; injection h1 with h1; subst h1; rw [hC] at ho; cases ho
    · obtain ⟨a, u, L, h1, ⟨o, ho, _⟩, _⟩ := F.fre x q
      rw [e] at h1; injection h1 with h1; subst h1; rw [hC] at ho; cases ho
theorem FrOk.other {h h' : Heap} {C : Addr} (F : FrOk T env sc m h κ γ n) (hs : Heap.SameBut C h h') (hc : κ C = .fr C) (hC : env.locals ≠ C ∧ ∀ x, kcls (sc.names.lookup x) = 2 → env.cells.lookup x ≠ some C) : FrOk T env sc m h' κ γ n := by
  have L := Lasts.own (γ := γ) (n := n) hs hc
  refine ⟨F.kind, F.glo, F.bui, F.cls, F.col, ?_, fun x v e q => ?_, fun x q => ?_, F.inj, F.ownk, fun x q => ?_⟩
  · obtain ⟨mL, N, q⟩ := F.ns
    exact ⟨mL, N.sameBut hs hC.1, fun x v e k => let ⟨u, h1, h2⟩ := q x v e k; ⟨u, h1, h2.lasts L⟩⟩
  · obtain ⟨a, u, L', h1, h2, h3, h4⟩ := F.cel x v e q
    exact ⟨a, u, L', h1, h2.sameBut hs (by rintro rfl; exact hC.2 x q h1), h3, h4.lasts L⟩
  · obtain ⟨a, u, h1, h2, h3⟩ := F.own x q
    exact ⟨a, u, h1, h2.sameBut hs (by rintro rfl; exact hC.2 x (by rw [q]; rfl) h1), h3⟩
  · obtain ⟨a, u, L', h1, h2, h3⟩ := F.fre x q
    exact ⟨a, u, L', h1, h2.sameBut hs (by rintro rfl; exact hC.2 x (by rw [q]; rfl) h1), h3⟩
theorem Step.other {P : Addr → Col → Prop} {h' : Heap} {C : Addr} (S : Step P s κ γ n s' κ' γ' n') (hs : Heap.SameBut C s'.heap h') (hC : s.heap.get? C = none) : Step P s κ γ n { s' with heap := h' } κ' γ' n' :=
  ⟨fun a o e q => (hs.2 a (by rintro rfl; rw [hC] at e; cases e)).trans (S.keep a o e q), fun a e => by
    show (h'.get? a).isSome
    rw [hs.2 a (by rintro rfl; rw [hC] at e; cases e)]
    exact S.alive a e, S.col, S.gam, S.nx, S.gens, S.os⟩
theorem asg_ok {t x : Expr} {p : Pos} (hx : EvOk T c Φ k x) (hu : isComp x = true → UseOk T c Φ k x)
    (he : ∀ sc m σ, ex c Φ (.Assign [t] x p) sc m σ = if okStores t x = true then (ev c Φ x sc m σ).bind fun v => (bindT sc t v.1 m).map fun m => (.next, m, v.2) else none) : ExOk T c Φ k (.Assign [t] x p) := by
  intro A env sc m s κ γ σ fl m' σ' hA I F e
  rw [he] at e
  split at e
  · rename_i hok
    simp only [Option.bind_eq_some_iff, Option.map_eq_some_iff] at e
    obtain ⟨⟨v, σ1⟩, h1, m1, h2, e⟩ := e
    simp only [Prod.mk.injEq] at e
    obtain ⟨rfl, rfl, rfl⟩ := e
    obtain ⟨b, hb, hb'⟩ := swaps_eq x t p.line env
    rw [PyProof.Rows.exec_Assign]
    refine wpAny_bind (wpAny_standAt ?_)
    show wpAny _ A (swapsWith x (some t) p.line env >>= _) _ _ s
    rw [hb]
    refine wpAny_bind (wpAny_pure ?_)
    cases b with
    | true =>
      obtain ⟨hc, y, py, rfl⟩ := hb' rfl
      simp only [if_true]
      refine wpAny_bind (hu hc A env sc m s κ γ σ v σ1 _ _ hA I F h1 fun D C s' κ' γ' S I' R hCc hCn hCN => ?_)
      have F' := F.step S
      have hap := F.apart hCn
      refine wpAny_mono (store_plain (env := env) hA.handled I' F' R h2) (fun _ s₂ q => ?_) fun _ _ z => z
      obtain ⟨S2, I2, F2⟩ := q
      obtain ⟨mC, hN⟩ := hCN
      have hCo : ¬ Owns env sc C := by
        rintro (q | ⟨x, q1, q2⟩)
        · exact hap.1 q.symm
        · exact hap.2 x (by rw [q1]; rfl) q2
      have hN2 : s₂.heap.Ns C mC := hN.at' fun o ho => S2.keep C o ho (by rw [hCc]; exact ps_fr hCo)
      exact ⟨mC, hN2, fun h' hs => wpAny_pure ⟨κ', γ', (S.ps.ts S2).other hs hCn, I2.own hs hCc (tk := s₂.toks), F2.other hs hCc hap, rfl⟩⟩
    | false =>
      simp only [Bool.false_eq_true, if_false]
      refine wpAny_bind (wpAny_mono (hx A env sc m s κ γ σ v σ1 hA I F h1) (fun u s₁ q => ?_) fun _ _ z => z)
      obtain ⟨κ1, γ1, S1, I1, R1⟩ := q
      have F1 := F.step S1
      have ht : ∀ ts p, t ≠ .List ts p := by
        rintro ts p rfl
        simp [bindT] at h2
      rcases swapped_eq hok ht env with hs | ⟨ts, j, pt, names, rfl, hn1, hn2, hs⟩
      · rw [hs]
        refine wpAny_bind (wpAny_pure ?_)
        show wpAny _ A (do assignAll u ((assignEach [t] env).map (·.2)); pure Flow.next) _ _ s₁
        refine wpAny_bind (wpAny_mono (store_plain (env := env) hA.handled I1 F1 R1 h2) (fun _ s₂ q => wpAny_pure ?_) fun _ _ z => z)
        obtain ⟨S2, I2, F2⟩ := q
        exact ⟨κ1, γ1, S1.ps.ts S2, I2, F2, rfl⟩
      · rw [hs]
        refine wpAny_bind (wpAny_pure ?_)
        simp only [bindT] at h2
        split at h2
        · rename_i vs
          obtain ⟨a1, a2, rfl⟩ := bindNames_eq h2 hn1
          obtain ⟨a, us, ep, rfl, cc, g, b, q⟩ := R1
          show wpAny _ A (do rule "assign.swapped-stores"; let items ← unpackItems (.ref a) names.length none; assignInOrder (names.reverse.map fun n => bindName env n) items.reverse; pure Flow.next) _ _ s₁
          refine wpAny_bind (wpAny_rule (wpAny_bind ?_))
          have hlen : names.length = us.toArray.size := by simp [q.length, a2]
          rw [hlen]
          refine wpAny_unpackItems_tuple hA.handled ⟨_, g, rfl, ep, rfl⟩ fun h' hext => ?_
          have hk : ∀ b o, s₁.heap.get? b = some o → h'.get? b = some o := fun b o e => hext b o (ne_size e) e
          have S : Step (Ps (Owns env sc)) s₁ κ1 γ1 σ1.nx { s₁ with heap := h' } κ1 γ1 σ1.nx := .keeps hk (fun _ _ => rfl) (tk := s₁.toks)
          have I' : Inv T { s₁ with heap := h' } κ1 γ1 σ1 := I1.keeps hk (fun _ _ => rfl) (tk := s₁.toks)
          have L : Lasts s₁.heap κ1 γ1 σ1.nx h' κ1 γ1 σ1.nx := .keeps hk fun _ _ => rfl
          have F' : FrOk T env sc m h' κ1 γ1 σ1.nx := F1.keeps L fun a o L e q => ⟨hk _ _ e, q⟩
          refine wpAny_bind (wpAny_mono (bindEach_ok (A := A) (s := { s₁ with heap := h' }) (xs := names.reverse) (vs := vs.reverse) I' F' (fun x hx => a1 x (List.mem_reverse.mp hx)) (by simp [a2]) (by simpa using (q.lasts L).reverse)) (fun _ s₂ q => wpAny_pure ?_) fun _ _ z => z)
          obtain ⟨S2, I2, F2⟩ := q
          rw [sets_rev hn2 a2] at F2
          exact ⟨κ1, γ1, (S1.ps.ts S).ts S2, I2, F2, rfl⟩
        · cases h2
  · cases e
end
end Mine
namespace Mine
open PySem
theorem wpAny_inplaceOp_iconcat {M : Model} {A : Around} {E : Value → Shared → Prop} {s : Shared} {a b : Value} {T id : String} {Q : Value → Shared → Prop} (ha : s.TypeIs a T) (hb : s.TypeIs b T)
    (hi : typeLookup (.type T) (dunderI "add") = pure (some (.builtin id))) (hs : isSeqSlot (some (.builtin id)) = true) (hfill : fillsNumberSlot (.type T) "add" = pure false)
    (hc : wpAny M A (call (.builtin id) [a, b]) Q E s) : wpAny M A (inplaceOp .Add a b) Q E s := by
  unfold inplaceOp
  refine wpAny_holding ?_
  have hfi : fillsInplaceSlot (.type T) "add" (Operator.Add == .Add) = pure false := by
    unfold fillsInplaceSlot
    show (typeLookup (.type T) (dunderI "add") >>= fun fi => pure (fi.isSome && !isSeqSlot fi)) = pure false
    rw [hi]
    show (pure (true && !isSeqSlot (some (.builtin id))) : Sem Bool) = pure false
    rw [hs]; rfl
  have hsi : seqSlot? (.type T) (dunderI "add") = pure (some (.builtin id)) := seqSlot_of hi hs
  refine wpAny_bind (wpAny_typeOf ha (wpAny_bind (wpAny_of_eq hfi ?_)))
  show wpAny M A (if false = true then _ else _) Q E s
  rw [if_neg Bool.false_ne_true]
  refine wpAny_bind (wpAny_binaryOp1_none (nm := "add") ha hb hfill ?_)
  refine wpAny_bind (wpAny_of_eq hsi ?_)
  exact wpAny_bind (wpAny_rule hc)
section
variable {T : Tp} {c : Cfg} {Φ : Fns} {k : Nat} {A : Around} {env : Env} {sc : Scope} {m m' : Fm} {s s' s'' : Shared} {κ κ' : Addr → Col} {γ γ' : Nat → Addr} {σ σ' : Sto} {n n' : Nat}
theorem inc_ok (I : Inv T s κ γ σ) {op : Operator} {x y z : AV} {u w : Value} (rx : Rep T s.heap κ γ σ.nx x u) (ry : Rep T s.heap κ γ σ.nx y w) (e : incA σ op x y = some (z, σ')) :
    wpAny (model T.prog T.w) A (inplaceOp op u w) (EvP T s κ γ σ.nx z σ') NoE s := by
  unfold incA at e
  split at e
  · split at e
    · simp only [Option.some.injEq, Prod.mk.injEq] at e
      obtain ⟨rfl, rfl⟩ := e
      obtain ⟨t, rfl⟩ := rx
      obtain ⟨t', rfl⟩ := ry
      exact PyProof.Rows.iadd_int (EvP.int I)
    · cases e
  · split at e
    · split at e
      · rename_i hsz
        simp only [Option.some.injEq, Prod.mk.injEq] at e
        obtain ⟨rfl, rfl⟩ := e
        obtain ⟨t, rfl⟩ := rx
        obtain ⟨t', rfl⟩ := ry
        exact PyProof.Rows.iadd_str (fun t' tk => EvP.str I) hsz
      · cases e
    · cases e
  · rename_i l
    split at e
    · rename_i xs hg
      simp only [Option.bind_eq_some_iff] at e
      obtain ⟨ys, hy, e⟩ := e
      split at e
      · rename_i hsz
        simp only [Option.some.injEq, Prod.mk.injEq] at e
        obtain ⟨rfl, rfl⟩ := e
        obtain ⟨rfl, hl⟩ := rx
        obtain ⟨b, us, ep', rfl, g', b', q'⟩ := lst_rep I ry hy
        obtain ⟨hn, vs, ep, hc, g, hb, q⟩ := I.objs _ _ hg
        have h1 := q.length
        have h2 := q'.length
        refine wpAny_inplaceOp_iconcat ⟨_, g, rfl⟩ ⟨_, g', rfl⟩ PySem.F.slot_list_iadd.lookup (by decide +kernel) noFill_list_add ?_
        refine call_meets PySem.F.slot_list_iadd ⟨_, g, rfl⟩ PySem.F.entry_list_iadd (PySem.F.args_list_iadd_2 _ _) (AutoSeq1.list___iadd___list_list_0 (γ l) vs.toArray ep b us.toArray ep' ?_ ?_ ?_) ⟨g, g', ?_⟩
        · simp only [Bool.and_eq_true, Bool.not_eq_true']
          rintro ⟨_, h⟩
          simp [Builtin.List.listTooLong, sizeLine] at h
          omega
        · simp only [List.size_toArray, sizeLine]; omega
        · simp only [List.size_toArray, sizeLine]; omega
        · have hself := Heap.get?_update_self (Obj.mapSeq fun x => x ++ us.toArray) g rfl
          obtain ⟨e2, hh⟩ : ∃ e2, (s.heap.update (γ l) (Obj.mapSeq fun x => x ++ us.toArray)).get? (γ l) = some (lobj (vs ++ us) e2) := by
            rw [hself]; simp [lobj, Obj.mapSeq]
          obtain ⟨S, I'⟩ := upd_list (tk := s.toks) I hg (Heap.SameBut.update ..) hh (by simp; omega) (q.append q')
          exact ⟨κ, γ, S, I', rfl, hn⟩
      · cases e
    · cases e
  · cases e
theorem augname_ok (O : TopOk T c) {x : Str} {op : Operator} {e : Expr} {xp p : Pos} (he : EvOk T c Φ k e) : ExOk T c Φ k (.AugAssign (.Name x xp) op e p) := by
  intro A env sc m s κ γ σ fl m' σ' hA I F ee
  simp only [ex, Option.bind_eq_some_iff, Option.map_eq_some_iff] at ee
  obtain ⟨old, h1, ⟨v, σ1⟩, h2, ⟨z, σ2⟩, h3, m1, h4, ee⟩ := ee
  simp only [Prod.mk.injEq] at ee
  obtain ⟨rfl, rfl, rfl⟩ := ee
  refine wpAny_AugAssign_Name ?_
  refine (look_ok (A := A) O I F h1 fun u r => ?_).2
  refine wpAny_mono (he A env sc m s κ γ σ v σ1 hA I F h2) (fun w s₁ q => ?_) fun _ _ z => z
  obtain ⟨κ1, γ1, S1, I1, R1⟩ := q
  refine wpAny_mono (inc_ok (A := A) I1 (r.step S1) R1 h3) (fun y s₂ q => ?_) fun _ _ z => z
  obtain ⟨κ2, γ2, S2, I2, R2⟩ := q
  obtain ⟨hm, rfl⟩ := setv_may h4
  have S12 := S1.te S2
  exact bind_ok I2 (F.step S12) hm R2 fun s' S I' F' => ⟨κ2, γ2, S12.ps.ts S, I', F', rfl⟩
theorem augstore_plain {e : Expr} {r : AV × Sto} (h : ev c Φ e sc m σ = some r) (o i w : Value) : augStore e o i w = (do holding [w, o, i] (setItem o i w); release [w, o, i] []; pure .next) := by
  cases e with
  | Slice a b d p => simp [ev] at h
  | _ => rfl
/-- an item is stored again where it stands -/
theorem setItem_same {l : Addr} {vs : List Value} {ep : Nat} {j : Int} {t : Tok} {v : Value} {Q : Unit → Shared → Prop} (g : s.heap.get? l = some (lobj vs ep)) (h0 : 0 ≤ j) (hj : j < 2 ^ 63) (hv : vs[j.toNat]? = some v)
    (hQ : ∀ h' : Heap, (∀ a, h'.get? a = s.heap.get? a) → Q () { s with heap := h' }) : wpAny (model T.prog T.w) A (setItem (.ref l) (.int j t) v) Q NoE s := by
  unfold setItem
  try with_reducible refine wpAny_holding ?_
  refine wpAny_bind (wpAny_sequenceKey ⟨_, g, rfl⟩ (by decide) ?_)
  refine wpAny_bind (wpAny_callSpecial?_slot (name := Str.ofString "__setitem__") ⟨_, g, rfl⟩ slot_list_setitem (wpAny_call_entry slot_list_setitem ⟨_, g, rfl⟩ entry_list_setitem ?_ (args_list_setitem _ _ _)))
  show wpAny _ _ (Builtin.List.listSubscript? (.int j t) >>= _) _ _ s
  refine wpAny_bind (wpAny_listSubscript_int (fitsIndex_of h0 hj) ?_)
  clear hj
  obtain ⟨i, rfl⟩ := Int.eq_ofNat_of_zero_le h0
  have hv' : vs.toArray[i]? = some v := by simpa using hv
  show wpAny _ _ ((seqItemAt l i >>= fun r => pure (r.map (i, ·))) >>= _) _ _ s
  refine wpAny_bind (wpAny_bind (wpAny_seqItemAt g rfl (wpAny_pure ?_)))
  rw [hv']
  show wpAny _ _ (setSeqItemAt l i v >>= _) _ _ s
  have hself : (s.heap.update l (Obj.mapSeq (·.setIfInBounds i v))).get? l = s.heap.get? l := by
    rw [Heap.get?_update_self _ g rfl, g]
    simp [lobj, Obj.mapSeq, Array.setIfInBounds_same _ _ _ hv']
  have hall : ∀ a, (s.heap.update l (Obj.mapSeq (·.setIfInBounds i v))).get? a = s.heap.get? a := fun a => by
    by_cases ha : a = l
    · subst ha; exact hself
    · exact Heap.get?_update_other _ _ fun q => ha q.symm
  refine wpAny_bind (wpAny_setSeqItemAt g rfl ?_)
  first
    | exact wpAny_bind (wpAny_pure (wpAny_pure ⟨.none, rfl, wpAny_pure (hQ _ hall)⟩))
    | exact wpAny_pure ⟨.none, rfl, wpAny_pure (hQ _ hall)⟩
theorem augsub_ok {o i e : Expr} {op : Operator} {xp p : Pos} (ho : EvOk T c Φ k o) (hi : EvOk T c Φ k i) (he : EvOk T c Φ k e) : ExOk T c Φ k (.AugAssign (.Subscript o i xp) op e p) := by
  intro A env sc m s κ γ σ fl m' σ' hA I F ee
  simp only [ex, Option.bind_eq_some_iff] at ee
  obtain ⟨⟨v, σ1⟩, h1, ⟨j, σ2⟩, h2, old, h3, ⟨w, σ3⟩, h4, ee⟩ := ee
  simp only at h3 ee
  split at ee
  · rename_i xs j l
    split at ee
    · rename_i h0
      simp only [Option.map_eq_some_iff] at ee
      obtain ⟨⟨z, σ4⟩, h5, ee⟩ := ee
      simp only [Prod.mk.injEq] at ee
      obtain ⟨rfl, rfl, rfl⟩ := ee
      rw [arm_exec_AugAssign_3]
      refine wpAny_bind (wpAny_standAt (wpAny_bind (wpAny_mono (ho A env sc m s κ γ σ _ σ1 hA I F h1) (fun ov s₁ q => ?_) fun _ _ x => x)))
      obtain ⟨κ1, γ1, S1, I1, R1⟩ := q
      refine wpAny_bind (wpAny_holding (wpAny_mono (hi A env sc m s₁ κ1 γ1 σ1 _ σ2 hA I1 (F.step S1) h2) (fun iv s₂ q => ?_) fun _ _ x => x))
      obtain ⟨κ2, γ2, S2, I2, R2⟩ := q
      have g := (get_ok (A := A) I2 h3 (R1.step S2) R2).2
      refine wpAny_bind (wpAny_holding (wpAny_bind (wpAny_standAt (wpAny_bind (wpAny_mono g (fun ol s₃ q => ?_) fun _ _ x => x)))))
      obtain ⟨κ3, γ3, S3, I3, R3⟩ := q
      have S13 := (S1.te S2).te S3
      refine wpAny_bind (wpAny_holding (wpAny_mono (he A env sc m s₃ κ3 γ3 σ2 _ σ3 hA I3 (F.step S13) h4) (fun wv s₄ q => ?_) fun _ _ x => x))
      obtain ⟨κ4, γ4, S4, I4, R4⟩ := q
      refine wpAny_bind (wpAny_standAt (wpAny_operating (wpAny_mono (inc_ok (A := A) I4 (R3.step S4) R4 h5) (fun nv s₅ q => ?_) fun _ _ x => x)))
      obtain ⟨κ5, γ5, S5, I5, R5⟩ := q
      refine wpAny_bind (wpAny_standAt ?_)
      rw [augstore_plain h2]
      have S15 := (S13.te S4).te S5
      have Rl := (R1.step S2).step ((S3.te S4).te S5)
      have Ri := R2.step ((S3.te S4).te S5)
      obtain ⟨a, vs, ep, rfl, hc, gg, hb, q⟩ := Rl
      obtain ⟨t, rfl⟩ := Ri
      have Ro := R3.step (S4.te S5)
      -- what was read is the location that the sum stands at
      have hz : z = .loc l := by
        unfold incA at h5
        split at h5
        · rename_i hh; cases hh
        · rename_i hh; cases hh
        · rename_i l₀ hh
          injection hh with hh
          subst hh
          split at h5
          · simp only [Option.bind_eq_some_iff] at h5
            obtain ⟨ys, _, h5⟩ := h5
            split at h5
            · simp only [Option.some.injEq, Prod.mk.injEq] at h5
              exact h5.1.symm
            · cases h5
          · cases h5
        · cases h5
      subst hz
      have hget : xs[j.toNat]? = some (.loc l) ∧ j < xs.length := by
        unfold getA at h3
        simp only [lst?, Option.bind_eq_some_iff, Option.some.injEq] at h3
        obtain ⟨_, rfl, i', hi', hx⟩ := h3
        have hb := idx_lt hi'
        unfold idx at hi'
        rw [seqIndex_of h0 hb.2.2] at hi'
        injection hi' with hi'
        rw [hi']
        exact ⟨hx, hb.2.2⟩
      obtain ⟨w', hw', rw'⟩ := q.get hget.1
      have hsame : w' = nv := by
        obtain ⟨e1, _⟩ := rw'
        obtain ⟨e2, _⟩ := R5
        rw [e1, e2]
      subst hsame
      refine wpAny_bind (wpAny_holding (setItem_same gg h0 (by omega) hw' fun h' hall => wpAny_bind (wpAny_release (wpAny_pure ?_))))
      have hk : ∀ b o, s₅.heap.get? b = some o → h'.get? b = some o := fun b o e => (hall b).trans e
      have S6 : Step Pe s₅ κ5 γ5 σ4.nx { s₅ with heap := h' } κ5 γ5 σ4.nx := .keeps hk (fun _ _ => rfl) (tk := s₅.toks)
      have I6 : Inv T { s₅ with heap := h' } κ5 γ5 σ4 := I5.keeps hk (fun _ _ => rfl) (tk := s₅.toks)
      exact ⟨κ5, γ5, (S15.te S6).ps, I6, F.step (S15.te S6), rfl⟩
    · cases ee
  · cases ee
/-- a store into a dict's key -/
theorem setA_ok (I : Inv T s κ γ σ) {v i w : AV} {ov iv wv : Value} (e : setA σ v i w = some σ') (rv : Rep T s.heap κ γ σ.nx v ov) (ri : Rep T s.heap κ γ σ.nx i iv) (rw' : Rep T s.heap κ γ σ.nx w wv) :
    wpAny (model T.prog T.w) A (setItem ov iv wv) (fun _ s' => Step Pe s κ γ σ.nx s' κ γ σ'.nx ∧ Inv T s' κ γ σ') NoE s := by
  unfold setA at e
  split at e
  · rename_i l
    split at e
    · rename_i ks xs hg
      simp only [Option.map_eq_some_iff] at e
      obtain ⟨⟨ks', xs'⟩, e, rfl⟩ := e
      obtain ⟨rfl, hl⟩ := rv
      obtain ⟨hn, us, hc, D, L⟩ := I.objs _ _ hg
      have fin : ∀ h' us', DRep T h' (γ l) ks' us' → RepL T s.heap κ γ σ.nx xs' us' → Heap.SameBut (γ l) s.heap h' → Step Pe s κ γ σ.nx { s with heap := h', toks := s.toks + 1 } κ γ (σ.upd l (.dict ks' xs')).nx ∧ Inv T { s with heap := h', toks := s.toks + 1 } κ γ (σ.upd l (.dict ks' xs')) := fun h' us' D' L' hs => by
        have hk : ∀ a o, κ a ≠ .ob l → s.heap.get? a = some o → h'.get? a = some o := fun a o hne e => (hs.2 a (by rintro rfl; exact hne hc)).trans e
        refine ⟨.upd hk fun a e => ?_, I.upd hn hk ⟨us', hc, D', L'.lasts (.upd hk)⟩⟩
        by_cases ha : a = γ l
        · subst ha; obtain ⟨o, ho⟩ := D'.some; rw [ho]; rfl
        · rw [hs.2 a ha]; exact e
      have hlen := L.length
      unfold setKey at e
      split at e
      · rename_i i l
        obtain ⟨t, rfl⟩ := ri
        obtain ⟨hll, D⟩ := D
        split at e
        · rename_i hb
          refine wpAny_setItem_pairs (isInt_self i t) D (fun h' D' hs => ?_) (by simp [sizeLine]; omega)
          rw [stored_zip i wv l us hll] at D'
          simp only [Option.some.injEq] at e
          split at e
          · rename_i hm
            rw [if_pos hm] at D'
            simp only [Prod.mk.injEq] at e
            obtain ⟨rfl, rfl⟩ := e
            exact fin h' _ ⟨by rw [repl_length]; exact hll, D'⟩ (L.repl i rw' l) hs
          · rename_i hm
            rw [if_neg hm] at D'
            simp only [Prod.mk.injEq] at e
            obtain ⟨rfl, rfl⟩ := e
            exact fin h' _ ⟨by simp [hll], D'⟩ (L.append (.one rw')) hs
        · cases e
      · rename_i i l
        obtain ⟨t, rfl⟩ := ri
        obtain ⟨hll, D⟩ := D
        split at e
        · rename_i hb
          refine wpAny_setItem_pairs (isStr_self i t) D (fun h' D' hs => ?_) (by simp [sizeLine]; omega)
          rw [stored_zip i wv l us hll] at D'
          simp only [Option.some.injEq] at e
          split at e
          · rename_i hm
            rw [if_pos hm] at D'
            simp only [Prod.mk.injEq] at e
            obtain ⟨rfl, rfl⟩ := e
            exact fin h' _ ⟨by rw [repl_length]; exact hll, D'⟩ (L.repl i rw' l) hs
          · rename_i hm
            rw [if_neg hm] at D'
            simp only [Prod.mk.injEq] at e
            obtain ⟨rfl, rfl⟩ := e
            exact fin h' _ ⟨by simp [hll], D'⟩ (L.append (.one rw')) hs
        · cases e
      · cases e
    · cases e
  · cases e
theorem swaps_sub {e : Expr} {o i : Expr} {sp : Pos} {line : Nat} (env : Env) : swapsWith e (some (.Subscript o i sp)) line env = pure false := by
  cases e <;> rfl
theorem asgsub_ok {o i e : Expr} {sp p : Pos} (ho : EvOk T c Φ k o) (hi : EvOk T c Φ k i) (he : EvOk T c Φ k e) : ExOk T c Φ k (.Assign [.Subscript o i sp] e p) := by
  intro A env sc m s κ γ σ fl m' σ' hA I F ee
  simp only [ex, Option.bind_eq_some_iff, Option.map_eq_some_iff] at ee
  obtain ⟨⟨w, σ1⟩, h1, ⟨v, σ2⟩, h2, ⟨j, σ3⟩, h3, σ4, h4, ee⟩ := ee
  simp only [Prod.mk.injEq] at ee
  obtain ⟨rfl, rfl, rfl⟩ := ee
  refine wpAny_Assign_Subscript ?_ (swaps_sub env)
  refine wpAny_mono (he A env sc m s κ γ σ _ σ1 hA I F h1) (fun wv s₁ q => ?_) fun _ _ x => x
  obtain ⟨κ1, γ1, S1, I1, R1⟩ := q
  refine wpAny_mono (ho A env sc m s₁ κ1 γ1 σ1 _ σ2 hA I1 (F.step S1) h2) (fun ov s₂ q => ?_) fun _ _ x => x
  obtain ⟨κ2, γ2, S2, I2, R2⟩ := q
  refine wpAny_mono (hi A env sc m s₂ κ2 γ2 σ2 _ σ3 hA I2 (F.step (S1.te S2)) h3) (fun iv s₃ q => ?_) fun _ _ x => x
  obtain ⟨κ3, γ3, S3, I3, R3⟩ := q
  refine wpAny_mono (setA_ok (A := A) I3 h4 (R2.step S3) R3 (R1.step (S2.te S3))) (fun _ s₄ q => ?_) fun _ _ x => x
  obtain ⟨S4, I4⟩ := q
  have S := ((S1.te S2).te S3).te S4
  exact ⟨κ3, γ3, S.ps, I4, F.step S, rfl⟩
end
end Mine
namespace Mine
open PySem
/-- the one place where a set stands -/
def SetNode (T : Tp) (c : Cfg) (Φ : Fns) (k : Nat) : Prop := ∀ {f : Str} {fp : Pos} {elt t iter : Expr} {ifs : List Expr} {a : Int} {gs : List Comprehension} {csc : Scope} {sp p : Pos},
  EvOk T c Φ k elt → SrcOk T c Φ k iter → TrsOk T c Φ k ifs → GensOk T c Φ k gs → EvOk T c Φ k (.Call (.Name f fp) [.SetComp elt (⟨t, iter, ifs, a⟩ :: gs) csc sp] [] p)
section
variable {T : Tp} {c : Cfg} {Φ : Fns} {k : Nat}
theorem setNode_none (h : c.sets = false) : SetNode T c Φ k := by
  intro f fp elt t iter ifs a gs csc sp p h1 h2 h3 h4 A env sc m s κ γ σ v σ' hA I F e
  simp only [ev, h, Option.bind_eq_some_iff] at e
  obtain ⟨g, _, e⟩ := e
  split at e
  · simp at e
  · cases e
/-- what has no road has none -/
theorem ev_no {e : Expr} (h : ∀ sc m σ, ev c Φ e sc m σ = none) : EvOk T c Φ k e := by
  intro A env sc m s κ γ σ v σ' hA I F ee
  rw [h] at ee; cases ee
theorem ex_no {e : Stmt} (h : ∀ sc m σ, ex c Φ e sc m σ = none) : ExOk T c Φ k e := by
  intro A env sc m s κ γ σ fl m' σ' hA I F ee
  rw [h] at ee; cases ee
theorem evs_of : ∀ {es : List Expr}, (∀ x ∈ es, EvOk T c Φ k x) → EvsOk T c Φ k es
  | [], _ => evs_nil
  | _ :: _, h => evs_cons (h _ List.mem_cons_self) (evs_of fun y hy => h y (List.mem_cons_of_mem _ hy))
theorem evb_of {op : BoolOp} : ∀ {es : List Expr}, (∀ x ∈ es, EvOk T c Φ k x) → EvbOk T c Φ k op es
  | [], _ => evb_nil
  | [_], h => evb_one (h _ List.mem_cons_self)
  | _ :: _ :: _, h => evb_cons (h _ List.mem_cons_self) (evb_of fun y hy => h y (List.mem_cons_of_mem _ hy))
theorem evo_of : ∀ {o : Option Expr}, (∀ x, o = some x → EvOk T c Φ k x) → EvoOk T c Φ k o
  | none, _ => evo_none
  | some _, h => evo_some (h _ rfl)
theorem trb_of {op : BoolOp} : ∀ {es : List Expr}, (∀ x ∈ es, TrOk T c Φ k x) → TrbOk T c Φ k op es
  | [], _ => trb_nil
  | _ :: _, h => trb_cons (h _ List.mem_cons_self) (trb_of fun y hy => h y (List.mem_cons_of_mem _ hy))
theorem trs_of : ∀ {es : List Expr}, (∀ x ∈ es, TrOk T c Φ k x) → TrsOk T c Φ k es
  | [], _ => trs_nil
  | _ :: _, h => trs_cons (h _ List.mem_cons_self) (trs_of fun y hy => h y (List.mem_cons_of_mem _ hy))
theorem trc_no {ops : List CmpOp} {es : List Expr} (h : ∀ a sc m σ, trC c Φ ops es a sc m σ = none) : TrcOk T c Φ k ops es := by
  intro A env sc m s κ γ σ x v b σ' p hA I F R e
  rw [h] at e; cases e
theorem trc_of : ∀ {ops : List CmpOp} {es : List Expr}, ops.length = es.length → (∀ x ∈ es, EvOk T c Φ k x) → TrcOk T c Φ k ops es
  | [], _, _, _ => trc_no fun _ _ _ _ => by simp [trC]
  | [_], [_], _, h => trc_one (h _ List.mem_cons_self)
  | _ :: _ :: _, _ :: _ :: _, hl, h => trc_cons (h _ List.mem_cons_self) (trc_of (by simpa using hl) fun y hy => h y (List.mem_cons_of_mem _ hy))
theorem size_mem {x : Expr} {es : List Expr} (h : x ∈ es) : sizeOf x < sizeOf es := List.sizeOf_lt_of_mem h
theorem size_iter {g : Comprehension} {gs : List Comprehension} (h : g ∈ gs) : sizeOf g.iter < sizeOf gs := by
  have := List.sizeOf_lt_of_mem h
  cases g
  simp only [Comprehension.mk.sizeOf_spec] at this ⊢
  omega
theorem size_ifs {g : Comprehension} {gs : List Comprehension} (h : g ∈ gs) : sizeOf g.ifs < sizeOf gs := by
  have := List.sizeOf_lt_of_mem h
  cases g
  simp only [Comprehension.mk.sizeOf_spec] at this ⊢
  omega
theorem tr_of : ∀ (n : Nat) (e : Expr), sizeOf e < n → (∀ e' : Expr, sizeOf e' < n → EvOk T c Φ k e') → TrOk T c Φ k e := by
  intro n
  induction n with
  | zero => intro e h; omega
  | succ n ih =>
    intro e he hall
    have hall' : ∀ e' : Expr, sizeOf e' < n → EvOk T c Φ k e' := fun e' h => hall e' (by omega)
    have hself := hall e he
    cases e with
    | BoolOp op es p =>
      refine tr_bool (trb_of fun x hx => ih x ?_ hall')
      have := size_mem hx
      simp only [Expr.BoolOp.sizeOf_spec] at he
      omega
    | UnaryOp op e p =>
      cases op with
      | Not =>
        refine tr_not (ih e ?_ hall')
        simp only [Expr.UnaryOp.sizeOf_spec] at he
        omega
      | _ => exact tr_value hself (fun _ _ => rfl) (fun _ _ _ _ => by simp [tr])
    | Compare l ops cs p =>
      simp only [Expr.Compare.sizeOf_spec] at he
      refine tr_cmp (hall l (by omega)) fun hlen => trc_of hlen fun x hx => hall x ?_
      have := size_mem hx
      omega
    | IfExp t a b p =>
      intro A env sc m s κ γ σ b σ' hA I F e
      simp [tr] at e
    | _ => exact tr_value hself (fun _ _ => rfl) (fun _ _ _ _ => by simp [tr])
theorem src_of {e : Expr} (O : TopOk T c) (hΦ : FnsOk T Φ k) (h : ∀ e' : Expr, sizeOf e' ≤ sizeOf e → EvOk T c Φ k e') : SrcOk T c Φ k e := by
  cases e with
  | Call f as ks p =>
    cases f with
    | Name f fp =>
      match as, ks, h with
      | [a, b], [], h =>
        exact src_call O hΦ (h a (by simp only [Expr.Call.sizeOf_spec, List.cons.sizeOf_spec]; omega)) (h b (by simp only [Expr.Call.sizeOf_spec, List.cons.sizeOf_spec]; omega))
      | [], ks, h => exact src_val (h _ (Nat.le_refl _)) (fun _ _ _ _ => by simp [evSrc])
      | [a], ks, h => exact src_val (h _ (Nat.le_refl _)) (fun _ _ _ _ => by simp [evSrc])
      | a :: b :: d :: es, ks, h => exact src_val (h _ (Nat.le_refl _)) (fun _ _ _ _ => by simp [evSrc])
      | [a, b], x :: ks, h => exact src_val (h _ (Nat.le_refl _)) (fun _ _ _ _ => by simp [evSrc])
    | _ => exact src_val (h _ (Nat.le_refl _)) (fun _ _ _ _ => by simp [evSrc])
  | _ => exact src_val (h _ (Nat.le_refl _)) (fun _ _ _ _ => by simp [evSrc])
theorem gens_of {gs : List Comprehension} (h : ∀ e' : Expr, sizeOf e' < sizeOf gs → EvOk T c Φ k e') : GensOk T c Φ k gs := fun g hg =>
  ⟨h _ (size_iter hg), trs_of fun x hx => tr_of (sizeOf gs) x (Nat.lt_trans (size_mem hx) (size_ifs hg)) h⟩
theorem ev_ind (O : TopOk T c) (hΦ : FnsOk T Φ k) (hset : SetNode T c Φ k) (e : Expr) (h : ∀ e' : Expr, sizeOf e' < sizeOf e → EvOk T c Φ k e') : EvOk T c Φ k e := by
  have comp : ∀ (t iter : Expr) (ifs : List Expr) (a : Int) (gs : List Comprehension), sizeOf (⟨t, iter, ifs, a⟩ :: gs : List Comprehension) ≤ sizeOf e → SrcOk T c Φ k iter ∧ TrsOk T c Φ k ifs ∧ GensOk T c Φ k gs := by
    intro t iter ifs a gs hs
    simp only [List.cons.sizeOf_spec, Comprehension.mk.sizeOf_spec] at hs
    refine ⟨src_of O hΦ fun e' h' => h e' (by omega), trs_of fun x hx => tr_of (sizeOf e) x ?_ h, gens_of fun e' h' => h e' (by omega)⟩
    have := size_mem hx
    omega
  cases e with
  | Constant x j p => exact const_ok
  | Name x p => exact name_ok O
  | BoolOp op es p =>
    refine bool_node (evb_of fun x hx => h x ?_)
    have := size_mem hx
    simp only [Expr.BoolOp.sizeOf_spec]
    omega
  | BinOp l op r p => exact bin_node (h l (by simp only [Expr.BinOp.sizeOf_spec]; omega)) (h r (by simp only [Expr.BinOp.sizeOf_spec]; omega))
  | UnaryOp op e p =>
    cases op with
    | USub => exact usub_node (h e (by simp only [Expr.UnaryOp.sizeOf_spec]; omega))
    | _ => exact ev_no fun _ _ _ => by simp [ev]
  | IfExp t a b p =>
    exact ifexp_node (tr_of _ t (by simp only [Expr.IfExp.sizeOf_spec]; omega) h) (h a (by simp only [Expr.IfExp.sizeOf_spec]; omega)) (h b (by simp only [Expr.IfExp.sizeOf_spec]; omega))
  | Compare l ops rs p =>
    match ops, rs, h with
    | [op], [r], h => exact cmp_node (h l (by simp only [Expr.Compare.sizeOf_spec]; omega)) (h r (by simp only [Expr.Compare.sizeOf_spec, List.cons.sizeOf_spec]; omega))
    | [], rs, h => exact ev_no fun _ _ _ => by simp [ev]
    | a :: b :: ops, rs, h => exact ev_no fun _ _ _ => by simp [ev]
    | [op], [], h => exact ev_no fun _ _ _ => by simp [ev]
    | [op], a :: b :: rs, h => exact ev_no fun _ _ _ => by simp [ev]
  | List es p =>
    refine list_node (evs_of fun x hx => h x ?_)
    have := size_mem hx
    simp only [Expr.List.sizeOf_spec]
    omega
  | Tuple es j p =>
    refine tuple_node (evs_of fun x hx => h x ?_)
    have := size_mem hx
    simp only [Expr.Tuple.sizeOf_spec]
    omega
  | Dict ks vs p =>
    match ks, vs with
    | [], [] => exact dict_node
    | a :: ks, vs => exact ev_no fun _ _ _ => by simp [ev]
    | [], v :: vs => exact ev_no fun _ _ _ => by simp [ev]
  | Attribute x n p => exact attr_node O (h x (by simp only [Expr.Attribute.sizeOf_spec]; omega))
  | Subscript x i p =>
    have hx := h x (by simp only [Expr.Subscript.sizeOf_spec]; omega)
    have hi := h i (by simp only [Expr.Subscript.sizeOf_spec]; omega)
    cases i with
    | Slice lo hi st sp =>
      cases st with
      | none =>
        refine slice_node hx (evo_of fun y hy => h y ?_) (evo_of fun y hy => h y ?_)
        · subst hy; simp only [Expr.Subscript.sizeOf_spec, Expr.Slice.sizeOf_spec, Option.some.sizeOf_spec]; omega
        · subst hy; simp only [Expr.Subscript.sizeOf_spec, Expr.Slice.sizeOf_spec, Option.some.sizeOf_spec]; omega
      | some st => exact rev_node hx
    | _ => exact index_node hx hi fun _ _ _ => by simp [ev]
  | Call f es ks p =>
    cases ks with
    | cons a ks => exact ev_no fun _ _ _ => by simp [ev]
    | nil =>
      have hs : ∀ x ∈ es, EvOk T c Φ k x := fun x hx => h x (by
        have := size_mem hx
        simp only [Expr.Call.sizeOf_spec]
        omega)
      cases f with
      | Attribute x n ap => exact meth_node O hΦ (h x (by simp only [Expr.Call.sizeOf_spec, Expr.Attribute.sizeOf_spec]; omega)) (evs_of hs)
      | Name f fp =>
        match es, hs, h, comp with
        | [], hs, h, comp => exact call_node O hΦ (evs_of hs) fun _ _ _ => by simp [ev]
        | x :: y :: es, hs, h, comp => exact call_node O hΦ (evs_of hs) fun _ _ _ => by simp [ev]
        | [x], hs, h, comp =>
          cases x with
          | SetComp elt gs csc sp =>
            cases gs with
            | nil => exact call_node O hΦ (evs_of hs) fun _ _ _ => by simp [ev]
            | cons g gs =>
              obtain ⟨t, iter, ifs, a⟩ := g
              obtain ⟨h1, h2, h3⟩ := comp t iter ifs a gs (by simp only [Expr.Call.sizeOf_spec, List.cons.sizeOf_spec, Expr.SetComp.sizeOf_spec]; omega)
              exact hset (h elt (by simp only [Expr.Call.sizeOf_spec, List.cons.sizeOf_spec, Expr.SetComp.sizeOf_spec]; omega)) h1 h2 h3
          | _ => exact call_node O hΦ (evs_of hs) fun _ _ _ => by simp [ev]
      | _ => exact ev_no fun _ _ _ => by simp [ev]
  | ListComp elt gs csc p =>
    match gs, h, comp with
    | [], h, comp => exact ev_no fun _ _ _ => by simp [ev]
    | ⟨t, iter, ifs, a⟩ :: gs, h, comp =>
      obtain ⟨h1, h2, h3⟩ := comp t iter ifs a gs (by simp only [Expr.ListComp.sizeOf_spec]; omega)
      exact listcomp_node (h elt (by simp only [Expr.ListComp.sizeOf_spec]; omega)) h1 h2 h3
  | DictComp kx vx gs csc p =>
    match gs, h, comp with
    | [], h, comp => exact ev_no fun _ _ _ => by simp [ev]
    | ⟨t, iter, ifs, a⟩ :: gs, h, comp =>
      obtain ⟨h1, h2, h3⟩ := comp t iter ifs a gs (by simp only [Expr.DictComp.sizeOf_spec]; omega)
      exact dictcomp_node O (h kx (by simp only [Expr.DictComp.sizeOf_spec]; omega)) (h vx (by simp only [Expr.DictComp.sizeOf_spec]; omega)) h1 h2 h3
  | _ => exact ev_no fun _ _ _ => by simp [ev]
theorem ev_all (O : TopOk T c) (hΦ : FnsOk T Φ k) (hset : SetNode T c Φ k) (e : Expr) : EvOk T c Φ k e := by
  have main : ∀ (n : Nat) (e : Expr), sizeOf e < n → EvOk T c Φ k e := by
    intro n
    induction n with
    | zero => intro e h; omega
    | succ n ih => exact fun e he => ev_ind O hΦ hset e fun e' h' => ih e' (by omega)
  exact main _ e (Nat.lt_succ_self _)
theorem asg_nil {x : Expr} {p : Pos} {sc : Scope} {m : Fm} {σ : Sto} : ex c Φ (.Assign [] x p) sc m σ = none := by simp [ex]
theorem asg_two {a b x : Expr} {ts : List Expr} {p : Pos} {sc : Scope} {m : Fm} {σ : Sto} : ex c Φ (.Assign (a :: b :: ts) x p) sc m σ = none := by
  rw [ex] <;> intros <;> simp_all
theorem exs_of {ss : List Stmt} (h : ∀ st ∈ ss, ExOk T c Φ k st) : ExsOk T c Φ k ss := by
  induction ss with
  | nil => exact exs_nil
  | cons st ss ih => exact exs_cons (h _ List.mem_cons_self) (ih fun y hy => h y (List.mem_cons_of_mem _ hy))
section
variable (O : TopOk T c) (hΦ : FnsOk T Φ k) (hset : SetNode T c Φ k)
include O hΦ hset
theorem tr_all (e : Expr) : TrOk T c Φ k e := tr_of _ e (Nat.lt_succ_self _) fun e' _ => ev_all O hΦ hset e'
theorem src_all (e : Expr) : SrcOk T c Φ k e := src_of O hΦ fun e' _ => ev_all O hΦ hset e'
theorem gens_all (gs : List Comprehension) : GensOk T c Φ k gs := gens_of fun e' _ => ev_all O hΦ hset e'
theorem trs_all (es : List Expr) : TrsOk T c Φ k es := trs_of fun e _ => tr_all O hΦ hset e
theorem use_all {x : Expr} (hc : isComp x = true) : UseOk T c Φ k x := by
  cases x with
  | ListComp elt gs csc p =>
    match gs with
    | [] => exact use_none fun _ _ _ => by simp [ev]
    | ⟨t, iter, ifs, a⟩ :: gs => exact use_list (ev_all O hΦ hset elt) (src_all O hΦ hset iter) (trs_all O hΦ hset ifs) (gens_all O hΦ hset gs)
  | DictComp kx vx gs csc p =>
    match gs with
    | [] => exact use_none fun _ _ _ => by simp [ev]
    | ⟨t, iter, ifs, a⟩ :: gs => exact use_dict O (ev_all O hΦ hset kx) (ev_all O hΦ hset vx) (src_all O hΦ hset iter) (trs_all O hΦ hset ifs) (gens_all O hΦ hset gs)
  | SetComp elt gs csc p => exact use_none fun _ _ _ => by simp [ev]
  | _ => simp [isComp] at hc
theorem ex_ind (st : Stmt) (h : ∀ st' : Stmt, sizeOf st' < sizeOf st → ExOk T c Φ k st') : ExOk T c Φ k st := by
  have E := ev_all O hΦ hset
  have B : ∀ {ss : List Stmt}, sizeOf ss ≤ sizeOf st → ExsOk T c Φ k ss := fun {ss} hs => exs_of fun x hx => h x (by
    have := List.sizeOf_lt_of_mem hx
    omega)
  cases st with
  | Expr x p => exact expr_ok (E x)
  | Break p => exact break_ok
  | Continue p => exact continue_ok
  | Return x p =>
    cases x with
    | none => exact ex_no fun _ _ _ => by simp [ex]
    | some x => exact return_ok (E x)
  | Assign ts x p =>
    rcases ts with _ | ⟨t, _ | ⟨b, ts⟩⟩
    · exact ex_no fun _ _ _ => asg_nil
    case cons.cons => exact ex_no fun _ _ _ => asg_two
    case cons.nil =>
      cases t with
      | Subscript o i sp => exact asgsub_ok (E o) (E i) (E x)
      | _ => exact asg_ok (E x) (use_all O hΦ hset) fun _ _ _ => by simp [ex]
  | AugAssign t op x p =>
    cases t with
    | Name y yp => exact augname_ok O (E x)
    | Subscript o i sp => exact augsub_ok (E o) (E i) (E x)
    | _ => exact ex_no fun _ _ _ => by simp [ex]
  | If t a b p => exact if_ok (tr_all O hΦ hset t) (B (by simp only [Stmt.If.sizeOf_spec]; omega)) (B (by simp only [Stmt.If.sizeOf_spec]; omega))
  | While t b o p =>
    cases o with
    | nil => exact while_ok (tr_all O hΦ hset t) (B (by simp only [Stmt.While.sizeOf_spec]; omega))
    | cons x o => exact ex_no fun _ _ _ => by simp [ex]
  | For t x b o p =>
    cases o with
    | nil => exact for_ok (E x) (B (by simp only [Stmt.For.sizeOf_spec]; omega))
    | cons x o => exact ex_no fun _ _ _ => by simp [ex]
  | _ => exact ex_no fun _ _ _ => by simp [ex]
theorem ex_all (st : Stmt) : ExOk T c Φ k st := by
  have main : ∀ (n : Nat) (e : Stmt), sizeOf e < n → ExOk T c Φ k e := by
    intro n
    induction n with
    | zero => intro e h; omega
    | succ n ih => exact fun e he => ex_ind O hΦ hset e fun e' h' => ih e' (by omega)
  exact main _ st (Nat.lt_succ_self _)
theorem exs_all (ss : List Stmt) : ExsOk T c Φ k ss := exs_of fun st _ => ex_all O hΦ hset st
end
end
end Mine
namespace Mine
open PySem PyProof.Rows
structure DefOk (T : Tp) (f : Str) (d : Def) : Prop where
  fn : ∃ a o pm cd doc params, T.fnV f = some (.ref a) ∧ T.h₀.get? a = some o ∧ o.data = .func (Calls.docDef f params d.body d.scope pm cd doc) ∧ T.h₀.CodeRec cd f ∧
    ∀ vs : List Value, vs.length = d.params.length → bindArgs (Calls.docDef f params d.body d.scope pm cd doc) ⟨vs, []⟩ = pure (d.params.zip vs)
  co : d.scope.isCoroutine = false
  gen : d.scope.isGenerator = false
  sc : okScope d.scope = true
  nofree : ∀ x ∈ d.scope.names, x.2 ≠ .free
  par : ∀ x ∈ d.params, mayBind d.scope x
  nodup : d.params.Nodup
theorem CodeRec.keeps' {h h' : Heap} {cd : Value} {q : Str} (x : h.CodeRec cd q) (hk : ∀ b o, h.get? b = some o → h'.get? b = some o) : h'.CodeRec cd q := by
  obtain ⟨c, o, vs, t, h1, h2, h3⟩ := x
  exact ⟨c, o, vs, t, h1, hk _ _ h2, h3⟩
theorem bindL_at {kd : Str → Option NameKind} : ∀ (ps : List Str) (vs : List Value) (m : Str → Option Value) (x : Str), ps.Nodup → ps.length = vs.length → kd x = some .local →
    bindL kd (ps.zip vs) m x = ((ps.zip vs).lookup x).or (m x)
  | [], vs, m, x, _, _, _ => by simp [bindL]
  | p :: ps, [], m, x, _, h, _ => by simp at h
  | p :: ps, v :: vs, m, x, hn, hl, hx => by
    have hn' := List.nodup_cons.mp hn
    simp only [List.zip_cons_cons, bindL]
    rw [bindL_at ps vs _ x hn'.2 (by simpa using hl) hx]
    by_cases hxp : x = p
    · subst hxp
      have : (ps.zip vs).lookup x = none := by
        cases e : (ps.zip vs).lookup x with
        | none => rfl
        | some u => exact absurd (List.of_mem_zip (mem_of_lookup e)).1 hn'.1
      simp [this, hx]
    · have hb : (x == p) = false := by simpa using hxp
      rw [List.lookup_cons, hb]
      split <;> simp [hxp]
theorem bindC_at {kd : Str → Option NameKind} : ∀ (ps : List Str) (vs : List Value) (m : Str → Option Value) (x : Str), ps.Nodup → ps.length = vs.length → kd x ≠ some .local →
    bindC kd (ps.zip vs) m x = ((ps.zip vs).lookup x).or (m x)
  | [], vs, m, x, _, _, _ => by simp [bindC]
  | p :: ps, [], m, x, _, h, _ => by simp at h
  | p :: ps, v :: vs, m, x, hn, hl, hx => by
    have hn' := List.nodup_cons.mp hn
    simp only [List.zip_cons_cons, bindC]
    rw [bindC_at ps vs _ x hn'.2 (by simpa using hl) hx]
    by_cases hxp : x = p
    · subst hxp
      have : (ps.zip vs).lookup x = none := by
        cases e : (ps.zip vs).lookup x with
        | none => rfl
        | some u => exact absurd (List.of_mem_zip (mem_of_lookup e)).1 hn'.1
      simp [this, hx]
    · have hb : (x == p) = false := by simpa using hxp
      rw [List.lookup_cons, hb]
      split <;> simp [hxp]
section
variable {T : Tp} {c : Cfg} {Φ : Fns} {k : Nat} {A : Around} {s s' : Shared} {κ κ' : Addr → Col} {γ γ' : Nat → Addr} {σ σ' : Sto} {n : Nat}
theorem zip_lookup_rep {h : Heap} : ∀ {ps : List Str} {as : List AV} {vs : List Value} {x : Str} {v : AV}, RepL T h κ γ n as vs → (ps.zip as).lookup x = some v → ∃ u, (ps.zip vs).lookup x = some u ∧ Rep T h κ γ n v u
  | [], as, vs, x, v, r, e => by simp at e
  | p :: ps, [], vs, x, v, r, e => by simp at e
  | p :: ps, a :: as, vs, x, v, r, e => by
    obtain ⟨u, us, rfl, r1, r2⟩ := r
    simp only [List.zip_cons_cons, List.lookup_cons] at e ⊢
    split at e
    · injection e with e
      subst e
      exact ⟨u, rfl, r1⟩
    · exact zip_lookup_rep r2 e
theorem AOk.deeper (hA : AOk A (k + 1)) (env : Env) : AOk (A.deeper env) k := by
  obtain ⟨h1, h2, h3⟩ := hA
  refine ⟨h1, ?_, ?_⟩
  · rw [depth_deeper]; omega
  · rw [units_deeper]; omega
/-- a def of the text is called -/
theorem def_code (O : TopOk T c) (hΦ : FnsOk T Φ k) (hset : SetNode T c Φ k) {f : Str} {d : Def} (hd : DefOk T f d) {args : List AV} {z : AV} {u : Value} {vs : List Value} (e : d.call c Φ args σ = some (z, σ')) (hA : AOk A (k + 1)) (I : Inv T s κ γ σ)
    (hu : T.fnV f = some u) (r : RepL T s.heap κ γ σ.nx args vs) : codeAny (model T.prog T.w) A (.call u ⟨vs, []⟩) (fun r s' => match r with | .ok (.ret v) => EvP T s κ γ σ.nx z σ' v s' | .ok _ => False | .error e => NoE e s') s := by
  obtain ⟨a, o, pm, cd, doc, params, hf, ho, hdat, hcd, hbind⟩ := hd.fn
  rw [hf] at hu
  injection hu with hu
  subst hu
  have hkeep0 : ∀ b o, T.h₀.get? b = some o → s.heap.get? b = some o := fun b o e => (I.base b o e).1
  unfold Def.call at e
  split at e
  case isFalse => cases e
  rename_i hlen
  have hvl : vs.length = d.params.length := by rw [r.length, hlen]
  have hsc := hd.sc
  have hkind : d.scope.kind = .function := by
    unfold okScope at hsc
    simp only [Bool.and_eq_true, beq_iff_eq] at hsc
    exact hsc.1
  have hcellfrom : ∀ x N, d.scope.names.lookup x = some .cell → ((cellsFrom N d.scope.names []).lookup x).isSome := fun x N hx => cellsFrom_has _ _ _ (mem_of_lookup hx)
  refine call_cells_ret (by have := hA.depth; omega) (hkeep0 _ _ ho) hdat (O.nolimit.keeps hkeep0) (CodeRec.keeps' hcd hkeep0) (hbind vs hvl) (fun x hx => ?_) (fun h₁ tk F X => ?_) hd.co hd.gen hkind
  · have hm : x.1 ∈ d.params := (List.of_mem_zip (a := x.1) (b := x.2) hx).1
    rcases hd.par _ hm with q | q
    · exact .inl q
    · exact .inr ⟨q, hcellfrom _ _ q⟩
  generalize hN : s.heap.objs.size = N at *
  let κ1 : Addr → Col := fun b => if (s.heap.get? b).isSome then κ b else .fr N
  have hκ : ∀ b, (s.heap.get? b).isSome → κ1 b = κ b := fun b hb => if_pos hb
  have hnone : ∀ b, N ≤ b → s.heap.get? b = none := fun b hb => by
    cases e : s.heap.get? b with
    | none => rfl
    | some o => exact absurd (Heap.lt_size e) (Nat.not_lt.mpr (hN ▸ hb))
  have hκ' : ∀ b, N ≤ b → κ1 b = .fr N := fun b hb => if_neg (by rw [hnone b hb]; simp)
  have hk : ∀ b o, s.heap.get? b = some o → h₁.get? b = some o := F.keep
  have S1 : Step Pe s κ γ σ.nx { s with heap := h₁, toks := tk } κ1 γ σ.nx := .keeps hk hκ
  have I1 : Inv T { s with heap := h₁, toks := tk } κ1 γ σ := I.keeps hk hκ
  have L : Lasts s.heap κ γ σ.nx h₁ κ1 γ σ.nx := .keeps hk hκ
  have hkd : (envOfC f d.scope N a cd).kindOf = fun x => d.scope.names.lookup x := rfl
  rw [hkd] at F X
  have hcells : (envOfC f d.scope N a cd).cells = cellsFrom (N + 1) d.scope.names [] := rfl
  have hnofree : ∀ x, d.scope.names.lookup x ≠ some .free := fun x hx => hd.nofree _ (mem_of_lookup hx) rfl
  have hF : FrOk T (envOfC f d.scope N a cd) d.scope (fun x => (d.params.zip args).lookup x) h₁ κ1 γ σ.nx := by
    refine ⟨hkind, rfl, rfl, fun x => rfl, hκ' _ (Nat.le_refl _), ⟨_, F.ns, fun x v ex hx => ?_⟩, fun x v ex hx => ?_, fun x hx => ?_, fun x y b hx hy => ?_, fun x hx => hx, fun x hx => absurd hx (hnofree x)⟩
    · obtain ⟨u, h1, h2⟩ := zip_lookup_rep r ex
      refine ⟨u, ?_, h2.lasts L⟩
      rw [bindL_at _ _ _ _ hd.nodup hvl.symm hx, h1]; rfl
    · rcases kcls2 hx with hx | hx
      · obtain ⟨u, h1, h2⟩ := zip_lookup_rep r ex
        obtain ⟨b, hb⟩ := Option.isSome_iff_exists.mp (hcellfrom x (N + 1) hx)
        have hc := X.cell x b hb
        rw [bindC_at _ _ _ _ hd.nodup hvl.symm (by rw [hx]; decide), h1] at hc
        exact ⟨b, u, N, hb, hc, hκ' _ (Nat.le_of_lt (X.above x b (mem_of_lookup hb))), h2.lasts L⟩
      · exact absurd hx (hnofree x)
    · obtain ⟨b, hb⟩ := Option.isSome_iff_exists.mp (hcellfrom x (N + 1) hx)
      exact ⟨b, _, hb, X.cell x b hb, hκ' _ (Nat.le_of_lt (X.above x b (mem_of_lookup hb)))⟩
    · exact name_of_addr X.apart (mem_of_lookup hx) (mem_of_lookup hy)
  have hown : ∀ b, Owns (envOfC f d.scope N a cd) d.scope b → s.heap.get? b = none := by
    rintro b (rfl | ⟨x, q1, q2⟩)
    · exact hnone _ (Nat.le_refl _)
    · exact hnone _ (Nat.le_of_lt (X.above x b (mem_of_lookup q2)))
  have fin : ∀ {fl m' σ2 s₂ fv}, exs c Φ d.body d.scope (fun x => (d.params.zip args).lookup x) σ = some (fl, m', σ2) → ExP T (envOfC f d.scope N a cd) d.scope { s with heap := h₁, toks := tk } κ1 γ σ.nx fl m' σ2 fv s₂ →
      ∃ κ' γ', Step Pe s κ γ σ.nx s₂ κ' γ' σ2.nx ∧ Inv T s₂ κ' γ' (σ2.upto σ.nx) ∧ FlR T s₂.heap κ' γ' σ2.nx fl fv := by
    rintro fl m' σ2 s₂ fv _ ⟨κ2, γ2, S2, I2, F2, r2⟩
    refine ⟨κ2, γ2, (S1.ps.ts S2).pe hown, I2.less (g := (σ2.upto σ.nx).get) fun l o e => ?_, r2⟩
    simp only [Sto.upto] at e
    split at e
    · exact e
    · cases e
  split at e
  · rename_i v m' σ2 hx
    simp only [Option.some.injEq, Prod.mk.injEq] at e
    obtain ⟨rfl, rfl⟩ := e
    refine wpAny_mono (exs_all O hΦ hset d.body (A.deeper _) (envOfC f d.scope N a cd) d.scope _ _ κ1 γ σ _ _ _ (hA.deeper _) I1 hF hx) (fun fv s₂ q => ?_) fun _ _ z => z
    obtain ⟨κ', γ', S, I', u, rfl, ru⟩ := fin hx q
    exact ⟨κ', γ', S, I', ru⟩
  · rename_i m' σ2 hx
    simp only [Option.some.injEq, Prod.mk.injEq] at e
    obtain ⟨rfl, rfl⟩ := e
    refine wpAny_mono (exs_all O hΦ hset d.body (A.deeper _) (envOfC f d.scope N a cd) d.scope _ _ κ1 γ σ _ _ _ (hA.deeper _) I1 hF hx) (fun fv s₂ q => ?_) fun _ _ z => z
    obtain ⟨κ', γ', S, I', ru⟩ := fin hx q
    simp only [FlR] at ru
    subst ru
    exact ⟨κ', γ', S, I', rfl⟩
  · cases e
/-- a def of the text is called -/
theorem def_ok (O : TopOk T c) (hΦ : FnsOk T Φ k) (hset : SetNode T c Φ k) {f : Str} {d : Def} (hd : DefOk T f d) {args : List AV} {z : AV} {u : Value} {vs : List Value} (e : d.call c Φ args σ = some (z, σ')) (hA : AOk A (k + 1)) (I : Inv T s κ γ σ)
    (hu : T.fnV f = some u) (r : RepL T s.heap κ γ σ.nx args vs) : wpAny (model T.prog T.w) A (call u vs) (EvP T s κ γ σ.nx z σ') NoE s :=
  wpAny_call (def_code O hΦ hset hd e hA I hu r)
end
end Mine
namespace Mine
open PySem PyProof.Rows
theorem AOk.less {A : Around} {k j : Nat} (h : AOk A k) (hj : j ≤ k) : AOk A j := ⟨h.handled, by have := h.depth; omega, by have := h.units; omega⟩
/-- a def stands at an address -/
structure FdAt (h : Heap) (a : Addr) (fd : FuncData) (body : List Stmt) (ps : List Str) : Prop where
  obj : ∃ o, h.get? a = some o ∧ o.cls = .type "function" ∧ o.data = .func fd
  code : h.CodeRec fd.code fd.qualname
  body : fd.body = .stmts body
  glo : fd.globals = mainGlobals
  bui : fd.builtins = builtinsNs
  co : fd.scope.isCoroutine = false
  gen : fd.scope.isGenerator = false
  kind : fd.scope.kind = .function
  binds : ∀ vs : List Value, vs.length = ps.length → bindArgs fd ⟨vs, []⟩ = pure (ps.zip vs)
  loc : ∀ x ∈ ps, fd.scope.names.lookup x = some .local
  nocell : ∀ x ∈ fd.scope.names, x.2 ≠ .cell
  nodup : ps.Nodup
theorem rev_lookup : ∀ (ps : List Str) (vs : List Value) (x : Str), ps.Nodup → ps.length = vs.length → (ps.zip vs).reverse.lookup x = (ps.zip vs).lookup x
  | [], vs, x, _, _ => by simp
  | p :: ps, [], x, _, h => by simp at h
  | p :: ps, v :: vs, x, hn, hl => by
    have hn' := List.nodup_cons.mp hn
    simp only [List.zip_cons_cons, List.reverse_cons, List.lookup_append, List.lookup_cons]
    rw [rev_lookup ps vs x hn'.2 (by simpa using hl)]
    by_cases hx : x = p
    · subst hx
      have : (ps.zip vs).lookup x = none := by
        cases e : (ps.zip vs).lookup x with
        | none => rfl
        | some u => exact absurd (List.of_mem_zip (mem_of_lookup e)).1 hn'.1
      simp [this]
    · have hb : (x == p) = false := by simpa using hx
      rw [hb]
      cases (ps.zip vs).lookup x <;> simp
section
variable {T : Tp} {c : Cfg} {Φ : Fns} {k : Nat} {A : Around} {s s' : Shared} {κ κ' : Addr → Col} {γ γ' : Nat → Addr} {σ σ' : Sto} {n : Nat}
/-- how a call comes back -/
abbrev CallR (Q : Value → Shared → Prop) : Result → Shared → Prop := fun r s' => match r with
  | .ok (.ret v) => Q v s'
  | .ok _ => False
  | .error _ => False
/-- a plain def's frame, its closure empty -/
theorem fd_code {a : Addr} {fd : FuncData} {body : List Stmt} {ps : List Str} {vs : List Value} {args : List AV} (D : FdAt s.heap a fd body ps) (hclo : fd.closure = []) (hfree : ∀ x ∈ fd.scope.names, x.2 ≠ .free) (hA : AOk A (k + 1)) (I : Inv T s κ γ σ) (hlim : s.heap.NoLimit)
    (hlen : vs.length = ps.length) (r : RepL T s.heap κ γ σ.nx args vs) {Q : Value → Shared → Prop}
    (h : ∀ (env : Env) h₁ tk κ₁, env.scope = fd.scope → AOk (A.deeper env) k → FrOk T env fd.scope (fun x => (ps.zip args).lookup x) h₁ κ₁ γ σ.nx → Inv T { s with heap := h₁, toks := tk } κ₁ γ σ → Step Pe s κ γ σ.nx { s with heap := h₁, toks := tk } κ₁ γ σ.nx →
      (∀ b, Owns env fd.scope b → s.heap.get? b = none) → wpAny (model T.prog T.w) (A.deeper env) (execs body env) (fun fl s' => Q (match fl with | .ret v => v | _ => .none) s') NoE { s with heap := h₁, toks := tk }) :
    codeAny (model T.prog T.w) A (.call (.ref a) ⟨vs, []⟩) (CallR Q) s := by
  obtain ⟨o, ho, _, hdat⟩ := D.obj
  have hroom : A.depth < recursionLimit := by have := hA.depth; omega
  refine codeAny_call_def hroom ho hdat hlim D.code D.body (.of_eq (D.binds vs hlen)) D.nocell (fun x hx => D.loc _ (List.of_mem_zip (a := x.1) (b := x.2) hx).1) (fun h₁ hns hk => ?_) D.co D.gen D.kind
  generalize hN : s.heap.objs.size = N at *
  let κ1 : Addr → Col := fun b => if (s.heap.get? b).isSome then κ b else .fr N
  have hκ : ∀ b, (s.heap.get? b).isSome → κ1 b = κ b := fun b hb => if_pos hb
  have hnone : ∀ b, N ≤ b → s.heap.get? b = none := fun b hb => by
    cases e : s.heap.get? b with
    | none => rfl
    | some o => exact absurd (Heap.lt_size e) (Nat.not_lt.mpr (hN ▸ hb))
  have hκ' : ∀ b, N ≤ b → κ1 b = .fr N := fun b hb => if_neg (by rw [hnone b hb]; simp)
  have L : Lasts s.heap κ γ σ.nx h₁ κ1 γ σ.nx := .keeps hk hκ
  have hnocell : ∀ x, fd.scope.names.lookup x ≠ some .cell := fun x hx => D.nocell _ (mem_of_lookup hx) rfl
  have hnofree : ∀ x, fd.scope.names.lookup x ≠ some .free := fun x hx => hfree _ (mem_of_lookup hx) rfl
  have hcells : (callEnv fd N a).cells = [] := hclo
  refine wpAny_mono (h (callEnv fd N a) h₁ (s.toks + (ps.zip vs).length) κ1 rfl (hA.deeper _) ⟨D.kind, D.glo, D.bui, fun x => rfl, hκ' _ (Nat.le_refl _), ⟨_, hns, fun x v ex hx => ?_⟩, fun x v ex hx => ?_, fun x hx => absurd hx (hnocell x), fun x y b hx hy => ?_, fun x hx => absurd hx (hnocell x), fun x hx => absurd hx (hnofree x)⟩
    (I.keeps hk hκ) (.keeps hk hκ) fun b hb => ?_) (fun fl s' q => q) fun _ _ z => z.elim
  · obtain ⟨u, h1, h2⟩ := zip_lookup_rep r ex
    refine ⟨u, ?_, h2.lasts L⟩
    show (ps.zip vs).reverse.lookup x = some u
    rw [rev_lookup _ _ _ D.nodup hlen.symm, h1]
  · rcases kcls2 hx with q | q
    · exact absurd q (hnocell x)
    · exact absurd q (hnofree x)
  · rw [hcells] at hx; cases hx
  · rcases hb with rfl | ⟨x, q1, q2⟩
    · exact hnone _ (Nat.le_refl _)
    · exact absurd q1 (hnocell x)
theorem call_code {f : Value} {vs : List Value} {Q : Value → Shared → Prop} {prog : Program} {w : World} (h : codeAny (model prog w) A (.call f ⟨vs, []⟩) (CallR Q) s) : wpAny (model prog w) A (call f vs) Q NoE s :=
  wpAny_call (codeAny_mono h fun r s' q => by
    cases r with
    | error e => exact q
    | ok fl => cases fl <;> exact q)
theorem fd_frame {a : Addr} {fd : FuncData} {body : List Stmt} {ps : List Str} {vs : List Value} {args : List AV} (D : FdAt s.heap a fd body ps) (hclo : fd.closure = []) (hfree : ∀ x ∈ fd.scope.names, x.2 ≠ .free) (hA : AOk A (k + 1)) (I : Inv T s κ γ σ) (hlim : s.heap.NoLimit)
    (hlen : vs.length = ps.length) (r : RepL T s.heap κ γ σ.nx args vs) {Q : Value → Shared → Prop}
    (h : ∀ (env : Env) h₁ tk κ₁, env.scope = fd.scope → AOk (A.deeper env) k → FrOk T env fd.scope (fun x => (ps.zip args).lookup x) h₁ κ₁ γ σ.nx → Inv T { s with heap := h₁, toks := tk } κ₁ γ σ → Step Pe s κ γ σ.nx { s with heap := h₁, toks := tk } κ₁ γ σ.nx →
      (∀ b, Owns env fd.scope b → s.heap.get? b = none) → wpAny (model T.prog T.w) (A.deeper env) (execs body env) (fun fl s' => Q (match fl with | .ret v => v | _ => .none) s') NoE { s with heap := h₁, toks := tk }) :
    wpAny (model T.prog T.w) A (call (.ref a) vs) Q NoE s := call_code (fd_code D hclo hfree hA I hlim hlen r h)
theorem FdAt.keeps {h h' : Heap} {a : Addr} {fd : FuncData} {body : List Stmt} {ps : List Str} (D : FdAt h a fd body ps) (hk : ∀ b o, h.get? b = some o → h'.get? b = some o) : FdAt h' a fd body ps :=
  { D with obj := let ⟨o, h1, h2⟩ := D.obj; ⟨o, hk _ _ h1, h2⟩, code := CodeRec.keeps' D.code hk }
/-- the lexer's class and its methods -/
structure LexTop (T : Tp) (N : Addr) (mN : Str → Option Value) : Prop where
  cls : ClsAt T.h₀ T.C N mN
  nolimit : T.h₀.NoLimit
  no : ∀ x, x ∈ (["__getattribute__", "__getattr__", "__setattr__", "lineno", "instream", "whitespace", "pushback"] : List Str) → mN x = none
  meth : ∀ x, x ∈ (["get_token", "push_token", "_read_char"] : List Str) → ∃ f fd o, T.fnV x = some (.ref f) ∧ mN x = some (.ref f) ∧ T.h₀.get? f = some o ∧ o.cls = .type "function" ∧ o.data = .func fd
theorem no_obj : ∀ x : Str, x ∈ (["lineno", "instream", "whitespace", "pushback", "get_token", "push_token", "_read_char"] : List Str) → typeLookup (.type "object") x = pure none := by
  have h1 : typeLookup (.type "object") "lineno" = pure none := by rw [typeLookup_type, builtinLookup_eq_fast]; kernel_rfl
  have h2 : typeLookup (.type "object") "instream" = pure none := by rw [typeLookup_type, builtinLookup_eq_fast]; kernel_rfl
  have h3 : typeLookup (.type "object") "whitespace" = pure none := by rw [typeLookup_type, builtinLookup_eq_fast]; kernel_rfl
  have h4 : typeLookup (.type "object") "pushback" = pure none := by rw [typeLookup_type, builtinLookup_eq_fast]; kernel_rfl
  have h5 : typeLookup (.type "object") "get_token" = pure none := by rw [typeLookup_type, builtinLookup_eq_fast]; kernel_rfl
  have h6 : typeLookup (.type "object") "push_token" = pure none := by rw [typeLookup_type, builtinLookup_eq_fast]; kernel_rfl
  have h7 : typeLookup (.type "object") "_read_char" = pure none := by rw [typeLookup_type, builtinLookup_eq_fast]; kernel_rfl
  intro x hx
  simp only [List.mem_cons, List.not_mem_nil, or_false] at hx
  rcases hx with rfl | rfl | rfl | rfl | rfl | rfl | rfl <;> assumption
/-- the instance behind a location -/
theorem lex_inst (I : Inv T s κ γ σ) {l : Nat} {ln : Int} {lf : Nat} {push : List AV} (hg : σ.get l = some (.lexer ln lf push)) :
    ∃ d pb vs ep sv t u mA, s.heap.Inst (γ l) T.C mA ∧ s.heap.Ns1 d mA ∧ d ≠ γ l ∧ (∃ o, s.heap.get? (γ l) = some o ∧ o.dict = some d) ∧ κ (γ l) = .ob l ∧ κ d = .ob l ∧ κ pb = .ob l ∧ pb ≠ d ∧ pb ≠ γ l ∧ mA "lineno" = some (.int ln t) ∧
      mA "instream" = some sv ∧ Rep T s.heap κ γ σ.nx (.stream lf) sv ∧ mA "whitespace" = some (.str blanks u) ∧ mA "pushback" = some (.ref pb) ∧ (∀ x, x ∉ lexNames → mA x = none) ∧ s.heap.get? pb = some (lobj vs ep) ∧ push.length ≤ 2 ^ 24 ∧ RepL T s.heap κ γ σ.nx push vs := by
  obtain ⟨hl, o, d, pb, vs, ep, sv, t, u, mA, g, a1, a2, a3, a4, N, c1, c2, c3, a5, a6, m1, m2, r1, m3, m4, m5, g2, b2, r2⟩ := I.objs _ _ hg
  exact ⟨d, pb, vs, ep, sv, t, u, mA, ⟨o, g, a1, a2, .inr ⟨d, a3, a4, N⟩⟩, N, a4, ⟨o, g, a3⟩, c1, c2, c3, a5, a6, m1, m2, r1, m3, m4, m5, g2, b2, r2⟩
theorem lex_load {N : Addr} {mN : Str → Option Value} (X : LexTop T N mN) (I : Inv T s κ γ σ) {x : Addr} {mA : Str → Option Value} (hi : s.heap.Inst x T.C mA) {n : Str} {v : Value} (hn : n ∈ lexNames) (hv : mA n = some v) (hh : handedOut v = pure v) {e : Bool} {Q : Value → Shared → Prop}
    (h : Q v { s with toks := s.toks + 1 }) : wpAny (model T.prog T.w) A (getAttr (.ref x) n e) Q NoE s := by
  obtain ⟨hh', g, d, t, os⟩ := s
  have hk : ∀ b o, T.h₀.get? b = some o → hh'.get? b = some o := fun b o e => (I.base b o e).1
  obtain ⟨nm, q, bs, sn, sub, col, dd, k0, k1, k2, k3, k5, hC⟩ := (X.cls.keeps hk).obj
  have hm : n = "lineno" ∨ n = "instream" ∨ n = "whitespace" ∨ n = "pushback" := by simpa [lexNames] using hn
  exact load_attr hC (X.cls.keeps hk).ns (X.no _ (by simp)) (X.no _ (by rcases hm with rfl | rfl | rfl | rfl <;> simp)) (no_obj _ (by rcases hm with rfl | rfl | rfl | rfl <;> simp)) hi hv hh h
theorem lex_meth {N : Addr} {mN : Str → Option Value} (X : LexTop T N mN) (I : Inv T s κ γ σ) {l : Nat} {ln : Int} {lf : Nat} {push : List AV} {n : Str} {pl : Sem Bool} {Q : Value × List Value → Shared → Prop}
    (hg : σ.get l = some (.lexer ln lf push)) (hn : n = "get_token" ∨ n = "push_token" ∨ n = "_read_char") (h : ∀ f, T.fnV n = some f → Q (f, [.ref (γ l)]) s) :
    wpAny (model T.prog T.w) A (getMethod (.ref (γ l)) n pl) Q NoE s := by
  obtain ⟨d, pb, vs, ep, sv, t, u, mA, hi, _, _, _, _, _, _, _, _, _, _, _, _, _, m5, _⟩ := lex_inst I hg
  obtain ⟨hh', g, dr, tk, os⟩ := s
  have hk : ∀ b o, T.h₀.get? b = some o → hh'.get? b = some o := fun b o e => (I.base b o e).1
  obtain ⟨nm, q, bs, sn, sub, col, dd, k0, k1, k2, k3, k5, hC⟩ := (X.cls.keeps hk).obj
  obtain ⟨f, fd, o, h1, h2, h3, h4, _⟩ := X.meth n (by rcases hn with rfl | rfl | rfl <;> simp)
  exact method_of hC (X.cls.keeps hk).ns (X.no _ (by simp)) (X.no _ (by simp)) h2 (hk _ _ h3) h4 (no_obj _ (by rcases hn with rfl | rfl | rfl <;> simp)) hi (m5 _ (by rcases hn with rfl | rfl | rfl <;> decide)) (h _ h1)
theorem lex_attr {N : Addr} {mN : Str → Option Value} (X : LexTop T N mN) (I : Inv T s κ γ σ) {l : Nat} {n : Str} {x : AV} {Q : Value → Shared → Prop} (e : attrA σ (.loc l) n = some x) (h : ∀ u tk, Rep T s.heap κ γ σ.nx x u → Q u { s with toks := tk }) :
    wpAny (model T.prog T.w) A (getAttr (.ref (γ l)) n true) Q NoE s := by
  unfold attrA at e
  simp only at e
  split at e
  · rename_i hg
    obtain ⟨d, pb, vs, ep, sv, t, u, mA, hi, _, _, _, _, _, _, _, _, m1, _, _, m3, _⟩ := lex_inst I hg
    split at e
    · rename_i hn
      subst hn
      injection e with e; subst e
      exact lex_load X I hi (by simp [lexNames]) m1 rfl (h _ _ ⟨_, rfl⟩)
    · split at e
      · rename_i hn
        subst hn
        injection e with e; subst e
        exact lex_load X I hi (by simp [lexNames]) m3 rfl (h _ _ ⟨_, rfl⟩)
      · cases e
  · cases e
end
end Mine
namespace Mine
open PySem PyProof.Rows
section
variable {T : Tp} {c : Cfg} {Φ : Fns} {k : Nat} {A : Around} {s s' : Shared} {κ κ' : Addr → Col} {γ γ' : Nat → Addr} {σ σ' : Sto} {n : Nat}
theorem cls_cw {prog : Program} {w : World} {h₀ : Heap} {C N : Addr} {mN : Str → Option Value} {pos : Pos} {first : List Value} {args : List (Bool × Sem Value)} {Q : Value → Shared → Prop} (X : ClsAt h₀ C N mN)
    (h : wpAny (model prog w) A (evalArgs (.ref C) true args []) (fun a s₁ => (∀ b o, h₀.get? b = some o → s₁.heap.get? b = some o) ∧ wpAny (model prog w) A (call (.ref C) (first ++ a.pos) a.kw) Q NoE s₁) NoE s)
    (hp : args.any (·.1) = false) : wpAny (model prog w) A (callWith pos (.ref C) first args []) Q NoE s := by
  unfold callWith
  refine wpAny_bind (wpAny_holding (wpAny_mono h (fun a s₁ h₁ => ?_) fun _ _ x => x))
  obtain ⟨hh, g, d, t, os⟩ := s₁
  obtain ⟨nm, q, bs, sn, sub, col, dd, k0, k1, k2, k3, k5, hC⟩ := (X.keeps h₁.1).obj
  have f1 := tc_lookup
  have hT : (⟨hh, g, d, t, os⟩ : Shared).TypeIs (.ref C) "type" := ⟨_, hC, rfl⟩
  refine wpAny_bind (wpAny_standAt ?_)
  have hst : (args.any (fun x => x.fst) || ([] : List (Option Str × Sem Value)).any fun x => x.fst.isNone) = false := by rw [hp]; rfl
  show wpAny _ _ (keeperOf (.ref C) >>= _) _ _ _
  unfold keeperOf specialOf
  repeat (any_goals (first | assumption | with_reducible refine wpAny_loadPart_at hC ?_ | with_reducible refine wpAny_load' hC ?_ | wp_step))
  rw [if_pos (by rfl), hst]
  show wpAny _ _ (call (.ref C) (first ++ a.pos) a.kw >>= fun r => do holding [r] point; pure r) _ _ _
  exact wpAny_bind (wpAny_mono h₁.2 (fun r s' hr => wpAny_bind (wpAny_holding (wpAny_point (wpAny_pure hr)))) fun _ _ x => x)
/-- any callee of the text -/
theorem cw_ok {u : Value} {pos : Pos} {first : List Value} {args : List (Bool × Sem Value)} {Q : Value → Shared → Prop} {N : Addr} {mN : Str → Option Value} (X : ClsAt T.h₀ T.C N mN)
    (hu : u = .ref T.C ∨ ∃ a o fd, u = .ref a ∧ T.h₀.get? a = some o ∧ o.data = .func fd)
    (h : wpAny (model T.prog T.w) A (evalArgs u true args []) (fun a s₁ => (∃ κ γ σ, Inv T s₁ κ γ σ) ∧ wpAny (model T.prog T.w) A (call u (first ++ a.pos) a.kw) Q NoE s₁) NoE s) (hp : args.any (·.1) = false) :
    wpAny (model T.prog T.w) A (callWith pos u first args []) Q NoE s := by
  rcases hu with rfl | ⟨a, o, fd, rfl, ho, hd⟩
  · exact cls_cw X (wpAny_mono h (fun a s₁ ⟨⟨κ, γ, σ, I⟩, q⟩ => ⟨fun b o e => (I.base b o e).1, q⟩) fun _ _ z => z) hp
  · exact Calls.callWith_function (o := o) (fd := fd) (wpAny_mono h (fun a s₁ ⟨⟨κ, γ, σ, I⟩, q⟩ => ⟨⟨(I.base _ _ ho).1, hd⟩, q⟩) fun _ _ z => z)
end
end Mine
namespace Mine
open PySem PyProof.Rows
/-- the methods of a text's class, by place -/
def methAt (p : Program) (i j : Nat) : Option (Arguments × List Stmt × Scope) := match p.main.body[i]? with
  | some (.ClassDef _ _ _ body _ _ _ _ _ _ _) => match body[j]? with
    | some (.FunctionDef _ a b _ _ _ sc _ _ _) => some (a, b, sc)
    | _ => none
  | _ => none
def defAt (p : Program) (i : Nat) : Option (Arguments × List Stmt × Scope) := match p.main.body[i]? with
  | some (.FunctionDef _ a b _ _ _ sc _ _ _) => some (a, b, sc)
  | _ => none
def bodyOf (x : Option (Arguments × List Stmt × Scope)) : List Stmt := match x with
  | some y => y.2.1
  | none => []
def scopeOf (x : Option (Arguments × List Stmt × Scope)) : Scope := match x with
  | some y => y.2.2
  | none => { kind := .module, names := [], isGenerator := false, isCoroutine := false }
end Mine
set_option maxRecDepth 100000
namespace Mine
open PySem PyProof.Rows Builtin Builtin.ObjectAttr
/-- a function with a dict of its own -/
structure FnObj (h : Heap) (a d : Addr) (mA : Str → Option Value) : Prop where
  obj : ∃ o, h.get? a = some o ∧ o.cls = .type "function" ∧ (∃ fd, o.data = .func fd) ∧ o.dict = some d
  ne : d ≠ a
  ns : h.Ns d mA
theorem fn_ga : typeLookup (.type "function") "__getattribute__" = pure (some (.builtin "object.__getattribute__")) := by rw [typeLookup_type, builtinLookup_eq_fast]; kernel_rfl
theorem slot_fga : Slot "function" "__getattribute__" "object.__getattribute__" :=
  .of (owner := "object") (n := "__getattribute__") (by rw [typeLookup_type, builtinLookup_eq_fast]; kernel_rfl) (by decide +kernel) (by decide +kernel) (by decide +kernel)
    (by first | exact .inl (by decide +kernel) | exact .inr (by decide +kernel)) (by rw [isSubtype_type]; kernel_rfl)
theorem entry_fga : entryFor table "object.__getattribute__" = some Builtin.«object.__getattribute__» := entryFor_of_tree (by kernel_rfl)
theorem args_fga (a b : Value) : argsOk "object.__getattribute__" ⟨[a, b], []⟩ := by unfold argsOk; kernel_rfl
theorem fn_ga0 : typeLookup (.type "function") "__getattr__" = pure none := by rw [typeLookup_type, builtinLookup_eq_fast]; kernel_rfl
theorem fn_read : typeLookup (.type "function") "read" = pure none := by rw [typeLookup_type, builtinLookup_eq_fast]; kernel_rfl
theorem ns_look {h : Heap} {d : Addr} {m : Str → Option Value} (hns : h.Ns d m) : ∃ o, h.get? d = some o ∧ ∀ name, nsLook name o = pure (m name) := by
  obtain ⟨o, es, ep, ho, hd, hk, hm⟩ := hns
  refine ⟨o, ho, fun name => ?_⟩
  rw [← hm name]
  simp only [nsLook_eq, nsLookByArray, hd, nsFind, findBy]
  cases hf : es.find? (·.key.isStr name) with
  | some e => rfl
  | none =>
    have : es.any (·.refKey) = false := by
      rw [Array.any_eq_false']; intro e he; obtain ⟨n, t, h⟩ := hk e he; simp [DictEntry.refKey, h]
    simp only [this, Bool.false_eq_true, if_false, Option.map_none]
section
variable {prog : Program} {w : World} {A : Around} {E : Value → Shared → Prop} {h : Heap} {g : Array GenState} {d : Drawn} {t : Nat} {os : OsState} {a dx : Addr} {mA : Str → Option Value}
theorem fn_load_entry {tk : Tok} {v : Value} {Q : Fin → Shared → Prop} (I : FnObj h a dx mA) (hv : mA "read" = some v) (hq : Q (.done (.ret v)) ⟨h, g, d, t, os⟩) :
    wpAny (model prog w) A (Builtin.«object.__getattribute__» ⟨[.ref a, .str "read" tk], []⟩) Q E ⟨h, g, d, t, os⟩ := by
  obtain ⟨o, hx, hc, ⟨fd, hdt⟩, hdx⟩ := I.obj
  have hns := I.ns
  have f1 := fn_read
  obtain ⟨oc, od, odt, osl⟩ := o
  simp only at hc hdt hdx
  subst hc hdt hdx
  unfold Builtin.«object.__getattribute__»
  repeat (first | (with_reducible refine wpAny_loadPart_at hx ?_) | wp_step)
  obtain ⟨od, hod, hl⟩ := ns_look hns
  repeat (first | (with_reducible refine wpAny_loadPart_at hod ?_; rw [hl, hv]) | wp_step)
  exact hq
theorem fn_getAttr {v : Value} {expr : Bool} {Q : Value → Shared → Prop} (I : FnObj h a dx mA) (hv : mA "read" = some v) (hh : handedOut v = pure v) (hq : Q v ⟨h, g, d, t + 1, os⟩) :
    wpAny (model prog w) A (getAttr (.ref a) "read" expr) Q E ⟨h, g, d, t, os⟩ := by
  obtain ⟨o, hx, hc, ⟨fd, hdt⟩, hdx⟩ := id I.obj
  have f2 := fn_ga
  obtain ⟨oc, od, odt, osl⟩ := o
  simp only at hc hdt hdx
  subst hc hdt hdx
  have hT : (⟨h, g, d, t + 1, os⟩ : Shared).TypeIs (.ref a) "function" := ⟨_, hx, rfl⟩
  unfold getAttr getAttrBy
  repeat (first | (with_reducible refine wpAny_loadPart_at hx ?_) | wp_step)
  show wpAny _ _ (if (expr && false) = true then _ else boundAndCalled (.builtin "object.__getattribute__") (.ref a) (.str "read" t)) _ _ _
  rw [Bool.and_false, if_neg (by decide)]
  unfold boundAndCalled
  rw [slot_fga.bind]
  refine wpAny_bind (wpAny_pure ?_)
  refine wpAny_call_entry slot_fga hT entry_fga (fn_load_entry I hv ⟨v, rfl, ?_⟩) (args_fga _ _)
  show wpAny _ _ (handedOut v) _ _ _
  rw [hh]
  exact wpAny_pure hq
theorem fn_method {pl : Sem Bool} {f : Addr} {Q : Value × List Value → Shared → Prop} (I : FnObj h a dx mA) (hv : mA "read" = some (.ref f)) (hq : Q (.ref f, []) ⟨h, g, d, t + 1, os⟩) :
    wpAny (model prog w) A (getMethod (.ref a) "read" pl) Q E ⟨h, g, d, t, os⟩ := by
  obtain ⟨o, hx, hc, _⟩ := id I.obj
  have hT : (⟨h, g, d, t, os⟩ : Shared).TypeIs (.ref a) "function" := ⟨o, hx, hc⟩
  have usual : wpAny (model prog w) A (getAttr (.ref a) "read" >>= fun v => pure (v, ([] : List Value))) Q E ⟨h, g, d, t, os⟩ := wpAny_bind (fn_getAttr I hv rfl (wpAny_pure hq))
  unfold getMethod
  refine wpAny_bind (wpAny_specialOf hT fn_ga ?_)
  show wpAny _ _ (if (Manifest.canonical "object.__getattribute__" != "object.__getattribute__") = true then _ else _) _ _ _
  rw [F.canon_object_ga, if_neg (by decide)]
  refine wpAny_bind (wpAny_specialOf hT fn_ga0 ?_)
  rw [if_neg (by simp)]
  refine wpAny_bind (wpAny_specialOf hT fn_read ?_)
  exact usual
theorem slot_fsa : Slot "function" "__setattr__" "object.__setattr__" :=
  .of (owner := "object") (n := "__setattr__") (by rw [typeLookup_type, builtinLookup_eq_fast]; kernel_rfl) (by decide +kernel) (by decide +kernel) (by decide +kernel)
    (by first | exact .inl (by decide +kernel) | exact .inr (by decide +kernel)) (by rw [isSubtype_type]; kernel_rfl)
theorem args_fsa (a b c : Value) : argsOk "object.__setattr__" ⟨[a, b, c], []⟩ := by unfold argsOk; kernel_rfl
theorem fn_mro : mroOf (.type "function") = pure [.type "function", .type "object"] := by kernel_rfl
theorem fn_passes (self : Value) : refuseLoop self "__setattr__" [.type "function", .type "object"] = pure () := by kernel_rfl
theorem fn_store {v : Value} {o : Obj} {Q : Unit → Shared → Prop} (hx : h.get? a = some o) (hc : o.cls = .type "function") (hdt : ∃ fd, o.data = .func fd) (hd : o.dict = none)
    (hq : ∀ h' tk' dx, h.objs.size ≤ dx → dx ≠ a → FnObj h' a dx (fun y => if y = "read" then some v else none) → (∀ b o, b ≠ a → h.get? b = some o → h'.get? b = some o) → h.objs.size ≤ h'.objs.size → (∃ o', h'.get? a = some o' ∧ o'.data = o.data) → Q () ⟨h', g, d, tk', os⟩) :
    wpAny (model prog w) A (setAttr (.ref a) "read" v) Q E ⟨h, g, d, t, os⟩ := by
  obtain ⟨fd, hdt⟩ := hdt
  have hT : (⟨h, g, d, t + 1, os⟩ : Shared).TypeIs (.ref a) "function" := ⟨_, hx, hc⟩
  have hpass := fn_passes (.ref a)
  have f1 := fn_mro
  have f2 := fn_read
  unfold setAttr
  refine wpAny_bind (wpAny_mkText ?_)
  refine wpAny_bind (wpAny_callSpecial?_slot (name := Str.ofString "__setattr__") hT slot_fsa (wpAny_call_entry slot_fsa hT F.entry_object_sa ?_ (args_fsa _ _ _)))
  unfold Builtin.«object.__setattr__»
  repeat (first | rw [refuse_eq] | rw [hpass] | (with_reducible refine wpAny_loadPart_at hx ?_; rw [hc]) | wp_step)
  rw [hd, hdt, if_neg (by decide)]
  have hx₁ : (h.push { cls := .type "dict", data := .dict #[] }).get? a = some o := Heap.get?_push_of_some _ hx
  have hxs : a ≠ h.objs.size := Nat.ne_of_lt (Heap.lt_size hx)
  refine wpAny_bind (wpAny_alloc' ?_)
  refine wpAny_bind (wpAny_update' hx₁ ?_)
  refine wpAny_pure ?_
  have hgd : ((h.push { cls := .type "dict", data := .dict #[] }).update a fun o => { cls := o.cls, dict := some h.objs.size, data := o.data, slots := o.slots }).get? h.objs.size
      = some { cls := .type "dict", data := .dict #[] } :=
    (Heap.get?_update_ne _ _ _ _ hxs.symm).trans (Heap.get?_push_at rfl rfl)
  have hnd : ((h.push { cls := .type "dict", data := .dict #[] }).update a fun o => { cls := o.cls, dict := some h.objs.size, data := o.data, slots := o.slots }).Ns h.objs.size (fun _ => none) :=
    ⟨_, #[], _, hgd, rfl, fun e he => absurd he (by simp), fun _ => rfl⟩
  show wpAny _ _ (storeInDict h.objs.size (.str "read" t) "read" v) _ _ _
  unfold storeInDict newKeyGuard
  refine wpAny_bind (wpAny_pure (wpAny_bind (wpAny_nsSet1 (Heap.Ns1.of_empty hnd) fun h' hn' hs => ?_)))
  obtain ⟨oD, esD, epD, hoD, hdD, hcD⟩ := hn'.count (Within.cons "read" v Within.nil)
  refine wpAny_bind (wpAny_lookBehind hoD (by rw [hdD]; exact pastItsLine_dict (Nat.le_trans hcD (by rw [List.length_cons, List.length_nil, sizeLine_eq]; omega))) ?_)
  refine wpAny_pure ⟨_, rfl, wpAny_pure ?_⟩
  have hx' : h'.get? a = some { cls := o.cls, dict := some h.objs.size, data := o.data, slots := o.slots } := by
    refine (hs.2 a hxs).trans (Heap.get?_update_self _ hx₁ ?_)
    have hfr := (Heap.get?_some_iff.mp hx).2
    obtain ⟨oc, od, odt, osl⟩ := o
    cases odt <;> first | rfl | exact hfr
  refine hq h' _ h.objs.size (Nat.le_refl _) hxs.symm ⟨⟨_, hx', hc, ⟨fd, hdt⟩, rfl⟩, hxs.symm, ?_⟩ (fun b ob hbx hb => ?_) ?_ ⟨_, hx', rfl⟩
  · obtain ⟨o', es, ep, e1, e2, e3, eu, e4⟩ := hn'
    exact ⟨o', es, ep, e1, e2, e3, e4⟩
  · exact (hs.2 b (Nat.ne_of_lt (Heap.lt_size hb))).trans ((Heap.get?_update_ne _ _ _ _ hbx).trans (Heap.get?_push_of_some _ hb))
  · have := hs.1
    rw [this]
    simp [Heap.update, Heap.push]
end
end Mine
set_option maxRecDepth 100000
namespace Mine
open PySem PyProof.Rows
/-- the def within a def -/
def readOf (p : Program) (i : Nat) : Option (Arguments × List Stmt × Scope) := match bodyOf (defAt p i) with
  | .FunctionDef _ a b _ _ _ sc _ _ _ :: _ => some (a, b, sc)
  | _ => none
def argsOf (x : Option (Arguments × List Stmt × Scope)) : Arguments := match x with
  | some y => y.1
  | none => ⟨[], [], none, [], [], none, []⟩
/-- the objects behind a stream: the lambda, its dict, the def, its code, the cell -/
def StreamIs (p : Program) (i : Nat) (objs : List (Addr × Obj)) (a left : Addr) : Prop :=
  ∃ d f c' cl ob od oc ocl qual doc pm ctv, objs = [(a, ob), (d, od), (f, W.fnMade "_law_read" qual (argsOf (readOf p i)) (bodyOf (readOf p i)) (scopeOf (readOf p i)) [("left", cl)] doc pm c' ctv), (c', oc), (cl, ocl)] ∧
    ob.cls = .type "function" ∧ (∃ fd, ob.data = .func fd) ∧ ob.dict = some d ∧ d ≠ a ∧ (∃ es ep, od.data = .dict es ep ∧ StrKeys es ∧ ∀ y, nsFind es y = if y = "read" then some (.ref f) else none) ∧
    (∃ vs t, oc.data = .fields vs ∧ vs[1]? = some (.str qual t)) ∧ ocl.data = .cell (some (.ref left))
/-- all that is new is let be; the one table grows -/
theorem grow {T : Tp} {s : Shared} {κ : Addr → Col} {γ : Nat → Addr} {σ : Sto} {h' : Heap} {tk : Nat} {b : Bool} (I : Inv T s κ γ σ) (h0 : σ.get 0 = some (.tab b)) (hk : ∀ a o, a ≠ γ 0 → s.heap.get? a = some o → h'.get? a = some o) (hP : ∃ ps, h'.get? (γ 0) = some { cls := .none, data := .fields ps }) :
    let κ' : Addr → Col := fun a => if (s.heap.get? a).isSome then κ a else .fz
    Step Pe s κ γ σ.nx { s with heap := h', toks := tk } κ' γ σ.nx ∧ Inv T { s with heap := h', toks := tk } κ' γ (σ.upd 0 (.tab false)) := by
  intro κ'
  obtain ⟨hn, hga, hc, ps, hg, _⟩ := I.objs _ _ h0
  have hκ : ∀ a, (s.heap.get? a).isSome → κ' a = κ a := fun a ha => if_pos ha
  have hk' : ∀ a o, κ a ≠ .ob 0 → s.heap.get? a = some o → h'.get? a = some o := fun a o hne e => hk a o (by rintro rfl; exact hne hc) e
  have L : Lasts s.heap κ γ σ.nx h' κ' γ σ.nx := ⟨fun a o e q => ⟨hk' a o (by rw [q]; intro c; cases c) e, by rw [hκ a (by rw [e]; rfl), q]⟩, fun _ _ => rfl, Nat.le_refl _⟩
  refine ⟨⟨fun a o e q => hk' a o (fun c => q (by rw [c]; rfl)) e, fun a e => ?_, fun a e _ => hκ a e, fun _ _ => rfl, Nat.le_refl _, rfl, rfl⟩, ⟨fun a o e => ?_, fun l o e => ?_⟩⟩
  · by_cases ha : a = γ 0
    · subst ha; obtain ⟨ps, e⟩ := hP; show (h'.get? _).isSome; rw [e]; rfl
    · obtain ⟨o, ho⟩ := Option.isSome_iff_exists.mp e; show (h'.get? _).isSome; rw [hk a o ha ho]; rfl
  · have z := I.base a o e
    exact L.fz a o z.1 z.2
  · rw [Sto.upd_get] at e
    split at e
    · rename_i q
      subst q
      injection e with e
      subst e
      obtain ⟨ps', e'⟩ := hP
      exact ⟨hn, hga, by rw [hκ _ (by rw [hg]; rfl)]; exact hc, ps', e', fun h => by cases h⟩
    · rename_i q
      have z := I.objs l o e
      exact ⟨z.1, z.2.lasts L z.1 fun a o c g => ⟨hk' a o (by rw [c]; intro c; injection c with c; exact q c) g, by rw [hκ a (by rw [g]; rfl)]; exact c⟩⟩
end Mine
set_option maxRecDepth 100000
namespace Mine
open PySem PyProof.Rows Builtin
theorem slot_cit_next : Slot "callable_iterator" "__next__" "callable_iterator.__next__" :=
  .of (owner := "callable_iterator") (n := "__next__") (by rw [typeLookup_type, builtinLookup_eq_fast]; kernel_rfl) (by decide +kernel) (by decide +kernel) (by decide +kernel)
    (by first | exact .inl (by decide +kernel) | exact .inr (by decide +kernel)) (by rw [isSubtype_type]; kernel_rfl)
theorem slot_cit_iter : Slot "callable_iterator" "__iter__" "callable_iterator.__iter__" :=
  .of (owner := "callable_iterator") (n := "__iter__") (by rw [typeLookup_type, builtinLookup_eq_fast]; kernel_rfl) (by decide +kernel) (by decide +kernel) (by decide +kernel)
    (by first | exact .inl (by decide +kernel) | exact .inr (by decide +kernel)) (by rw [isSubtype_type]; kernel_rfl)
theorem entry_cit_next : entryFor table "callable_iterator.__next__" = some Builtin.«callable_iterator.__next__» := entryFor_of_tree (by kernel_rfl)
theorem args_cit_next (a : Value) : argsOk "callable_iterator.__next__" ⟨[a], []⟩ := by unfold argsOk; kernel_rfl
theorem args_cit_iter (a : Value) : argsOk "callable_iterator.__iter__" ⟨[a], []⟩ := by unfold argsOk; kernel_rfl
theorem entry_cit_iter : entryFor table "callable_iterator.__iter__" = some Builtin.«dict_keyiterator.__iter__» :=
  entryFor_alias (id' := "dict_keyiterator.__iter__") (by kernel_rfl) rfl (by decide +kernel) (by kernel_rfl)
def citObj (f : Value) (t : Tok) : Obj := { cls := .type "callable_iterator", data := .fields #[f, .str ⟨#[]⟩ t, .bool false] }
def citEnd : Obj := { cls := .type "callable_iterator", data := .fields #[.none, .none, .bool true] }
section
variable {prog : Program} {w : World} {A : Around} {E : Value → Shared → Prop} {s : Shared}
theorem wpAny_callBorrowed {M : Model} {f : Value} {pos : List Value} {Q : Value → Shared → Prop}
    (hc : codeAny M A (.call f ⟨pos, []⟩) (fun r s' => match r with | .ok (.ret v) => Q v s' | .ok _ => False | .error e => E e s') s) : wpAny M A (callBorrowed f pos) Q E s := fun Γ p hΓ => by
  refine wpCode_mono (fun r s' h => ?_) (hc _ p rfl (hΓ.enter (.call f ⟨pos, []⟩) none p (by intro x; cases x)))
  cases r with
  | error e => exact h
  | ok fl => cases fl <;> first | exact h | exact h.elim
theorem pyIter_cit {it : Addr} {o : Obj} {Q : Value → Shared → Prop} (ho : s.heap.get? it = some o) (hc : o.cls = .type "callable_iterator") (h : Q (.ref it) s) : wpAny (model prog w) A (pyIter (.ref it)) Q E s := by
  have hT : s.TypeIs (.ref it) "callable_iterator" := ⟨o, ho, hc⟩
  refine wpAny_pyIter_slot hT slot_cit_iter (wpAny_call_entry slot_cit_iter hT entry_cit_iter ?_ (args_cit_iter _))
  show wpAny _ _ (ret (.ref it)) _ _ s
  exact wpAny_pure ⟨_, rfl, "callable_iterator", _, hT, slot_cit_next.lookup, h⟩
theorem pyNext_cit {it bm f : Addr} {x : Value} {t : Tok} {of : Obj} {Q : Option Value → Shared → Prop} (hh : A.handled = none) (ho : s.heap.get? it = some (citObj (.ref bm) t)) (hb : s.heap.get? bm = some (W.methodObj (.ref f) x)) (hf : s.heap.get? f = some of) (hfd : ∃ fd, of.data = .func fd)
    (h : codeAny (model prog w) A.in1 (.call (.ref f) ⟨[x], []⟩) (CallR fun r s' => ∃ y t', r = .str y t' ∧ s'.heap.get? it = some (citObj (.ref bm) t) ∧ s'.heap.get? bm = some (W.methodObj (.ref f) x) ∧ s'.heap.get? f = some of ∧
      if y = ⟨#[]⟩ then ∀ h', Heap.ExtBut it s'.heap h' → h'.get? it = some citEnd → Q none { s' with heap := h' } else Q (some (.str y t')) s') s) :
    wpAny (model prog w) A (pyNext (.ref it)) Q E s := by
  have hT : s.TypeIs (.ref it) "callable_iterator" := ⟨_, ho, rfl⟩
  unfold pyNext
  refine wpAny_bind (wpAny_attempt (wpAny_callSpecial?_slot (name := Str.ofString "__next__") hT slot_cit_next
    (wpAny_call_entry slot_cit_next hT entry_cit_next ?_ (args_cit_next _))))
  show wpAny _ _ (field (.ref it) 2 >>= _) _ _ s
  refine wpAny_bind (wpAny_field ho rfl (x := .bool false) rfl ?_)
  show wpAny _ _ (if (Value.bool false == Value.bool true) = true then _ else _) _ _ s
  rw [if_neg (by decide)]
  have bx : ∀ {s₁ : Shared} {A' : Around} {E' : Value → Shared → Prop} {Q' : Bool → Shared → Prop}, s₁.heap.get? bm = some (W.methodObj (.ref f) x) → s₁.heap.get? f = some of → Q' true s₁ → wpAny (model prog w) A' (borrowsExactly (.ref bm)) Q' E' s₁ := fun {s₁ A' E' Q'} h1 h2 q => by
    obtain ⟨fd, hfd⟩ := hfd
    unfold borrowsExactly
    refine wpAny_bind (wpAny_load h1 ?_)
    show wpAny _ _ (if (Value.type "method" == Value.type "method") = true then _ else _) _ _ _
    rw [if_pos (by decide)]
    show wpAny _ _ (load f >>= _) _ _ _
    refine wpAny_bind (wpAny_load h2 ?_)
    rw [hfd]
    exact wpAny_pure q
  show wpAny _ _ (field (.ref it) 0 >>= _) _ _ s
  refine wpAny_bind (wpAny_field ho rfl (x := .ref bm) rfl ?_)
  refine wpAny_bind (wpAny_attempt ?_)
  unfold callOutOfASlot
  refine wpAny_bind (bx hb hf ?_)
  rw [if_pos rfl]
  refine wpAny_callBorrowed (ks_codeAny_call_bound hb (codeAny_mono h fun r s₁ q => ?_))
  cases r with
  | error e => exact q.elim
  | ok fl =>
    cases fl with
    | ret r =>
      obtain ⟨y, t', rfl, ho1, hb1, hf1, q⟩ := q
      show wpAny _ _ (field (.ref it) 2 >>= _) _ _ s₁
      refine wpAny_bind (wpAny_field ho1 rfl (x := .bool false) rfl ?_)
      show wpAny _ _ (if (Value.bool false == Value.bool true) = true then _ else _) _ _ s₁
      rw [if_neg (by decide)]
      show wpAny _ _ (field (.ref it) 1 >>= _) _ _ s₁
      refine wpAny_bind (wpAny_field ho1 rfl (x := .str ⟨#[]⟩ t) rfl ?_)
      refine wpAny_bind (wpAny_holding (wpAny_eqBool_str ?_))
      by_cases hy : y = ⟨#[]⟩
      · subst hy
        rw [if_pos rfl] at q
        simp only [decide_true, Bool.not_true, Bool.false_eq_true, if_false]
        refine wpAny_bind (wpAny_rule (wpAny_bind ?_))
        show wpAny _ _ (field (.ref it) 0 >>= _) _ _ s₁
        refine wpAny_bind (wpAny_field ho1 rfl (x := .ref bm) rfl ?_)
        show wpAny _ _ (slotLetsGo _ (.ref bm) _ >>= _) _ _ s₁
        unfold slotLetsGo
        refine wpAny_bind ?_
        show wpAny _ _ (borrowsExactly (.ref bm) >>= _) _ _ s₁
        refine wpAny_bind (bx hb1 hf1 ?_)
        rw [if_pos rfl]
        refine wpAny_pure ?_
        refine wpAny_bind (wpAny_setField_rec ho1 (by simp) fun h2 ho2 hs2 => ?_)
        refine wpAny_bind (wpAny_setField_rec ho2 (by simp) fun h3 ho3 hs3 => ?_)
        refine wpAny_setField_rec ho3 (by simp) fun h4 ho4 hs4 => ?_
        show wpAny _ _ (newExc (.type "StopIteration") [] >>= _) _ _ _
        refine wpAny_bind ?_
        simp only [newExc, newTuple]
        refine wpAny_bind (wpAny_newObj_type ?_ (by size_fits))
        refine wpAny_bind (m := firstArgMember _ _) (wpAny_of_eq (a := Value.none) (by first | rfl | (simp only [firstArgMember]; rfl)) ?_)
        refine wpAny_newObj_type ?_ (by size_fits)
        simp only [raiseNew]
        refine wpAny_bind (wpAny_handled ?_)
        rw [show A.in1.handled = none from hh]
        refine wpAny_bind (wpAny_pure (wpAny_throw ?_))
        refine wpAny_bind (wpAny_isInstance (T := "StopIteration") (b := true) ⟨_, Heap.get?_push_size _ rfl, rfl⟩ isSubtype_stop ?_)
        exact wpAny_pure (q _ (fun b o hb e => Heap.get?_push_of_some _ (Heap.get?_push_of_some _ ((hs4.2 b hb).trans ((hs3.2 b hb).trans ((hs2.2 b hb).trans e))))) (Heap.get?_push_of_some _ (Heap.get?_push_of_some _ ho4)))
      · rw [if_neg hy] at q
        rw [show decide ((⟨#[]⟩ : Str) = y) = false from decide_eq_false fun e => hy e.symm]
        simp only [Bool.not_false, if_true]
        exact wpAny_pure ⟨_, rfl, wpAny_pure q⟩
    | _ => exact q.elim
/-- it has ended -/
theorem pyNext_end {it : Addr} {Q : Option Value → Shared → Prop} (hh : A.handled = none) (ho : s.heap.get? it = some citEnd) (hQ : ∀ h', Heap.ExtBut it s.heap h' → h'.get? it = some citEnd → Q none { s with heap := h' }) :
    wpAny (model prog w) A (pyNext (.ref it)) Q E s := by
  have hT : s.TypeIs (.ref it) "callable_iterator" := ⟨_, ho, rfl⟩
  unfold pyNext
  refine wpAny_bind (wpAny_attempt (wpAny_callSpecial?_slot (name := Str.ofString "__next__") hT slot_cit_next
    (wpAny_call_entry slot_cit_next hT entry_cit_next ?_ (args_cit_next _))))
  show wpAny _ _ (field (.ref it) 2 >>= _) _ _ s
  refine wpAny_bind (wpAny_field ho rfl (x := .bool true) rfl ?_)
  show wpAny _ _ (if (Value.bool true == Value.bool true) = true then _ else _) _ _ s
  rw [if_pos (by decide)]
  refine wpAny_bind (wpAny_rule ?_)
  refine wpAny_bind ?_
  show wpAny _ _ (newExc (.type "StopIteration") [] >>= _) _ _ _
  refine wpAny_bind ?_
  simp only [newExc, newTuple]
  refine wpAny_bind (wpAny_newObj_type ?_ (by size_fits))
  refine wpAny_bind (m := firstArgMember _ _) (wpAny_of_eq (a := Value.none) (by first | rfl | (simp only [firstArgMember]; rfl)) ?_)
  refine wpAny_newObj_type ?_ (by size_fits)
  simp only [raiseNew]
  refine wpAny_bind (wpAny_handled ?_)
  rw [show A.in1.handled = none from hh]
  refine wpAny_bind (wpAny_pure (wpAny_throw ?_))
  refine wpAny_bind (wpAny_isInstance (T := "StopIteration") (b := true) ⟨_, Heap.get?_push_size _ rfl, rfl⟩ isSubtype_stop ?_)
  exact wpAny_pure (hQ _ (fun b o hb e => Heap.get?_push_of_some _ (Heap.get?_push_of_some _ e)) (Heap.get?_push_of_some _ (Heap.get?_push_of_some _ ho)))
theorem entry_iter2 : entryFor table "iter" = some Builtin.«iter» := entryFor_of_fast (by kernel_rfl)
theorem args_iter2 (a b : Value) : argsOk "iter" ⟨[a, b], []⟩ := by unfold argsOk; kernel_rfl
theorem meth_call_lk : typeLookup (.type "method") "__call__" = pure (some (.builtin "method.__call__")) := by rw [typeLookup_type, builtinLookup_eq_fast]; kernel_rfl
/-- the iterator is made -/
theorem call_iter {bm f : Addr} {x : Value} {t : Tok} {Q : Value → Shared → Prop} (hb : s.heap.get? bm = some (W.methodObj (.ref f) x)) (hQ : Q (.ref s.heap.objs.size) { s with heap := s.heap.push (citObj (.ref bm) t) }) :
    wpAny (model prog w) A (call (.builtin "iter") [.ref bm, .str ⟨#[]⟩ t]) Q E s := by
  refine Calls.call_function_entry (by decide +kernel) (by decide +kernel) entry_iter2 (args_iter2 _ _) ?_
  unfold Builtin.«iter»
  refine wpAny_bind (m := someArgs "iter" 1 2 _) (wpAny_of_eq (a := [Value.ref bm, .str ⟨#[]⟩ t]) (by first | rfl | kernel_rfl) ?_)
  refine wpAny_bind (wpAny_specialOf (T := "method") ⟨_, hb, rfl⟩ meth_call_lk ?_)
  simp only [Option.isNone_some, Bool.false_eq_true, if_false]
  refine wpAny_bind (wpAny_rule (wpAny_bind ?_))
  unfold newFields
  refine wpAny_newObj_type ?_ (by size_fits)
  exact wpAny_pure ⟨_, rfl, hQ⟩
end
end Mine
set_option maxRecDepth 100000
namespace Mine
open PySem PyProof.Rows Builtin Builtin.ObjectAttr
theorem fn_get0 : typeLookup (.type "function") "__get__" = pure (some (.builtin "function.__get__")) := by rw [typeLookup_type, builtinLookup_eq_fast]; kernel_rfl
theorem fn_set0 : typeLookup (.type "function") "__set__" = pure none := by rw [typeLookup_type, builtinLookup_eq_fast]; kernel_rfl
theorem fn_del0 : typeLookup (.type "function") "__delete__" = pure none := by rw [typeLookup_type, builtinLookup_eq_fast]; kernel_rfl
section
variable {prog : Program} {w : World} {A : Around} {E : Value → Shared → Prop} {h : Heap} {g : Array GenState} {d : Drawn} {t : Nat} {os : OsState}
variable {nm q : Str} {C N x f : Addr} {of : Obj} {bs : List Value} {sn : List Str} {sub : List Value} {ab : Bool} {col : Option Bool} {dd : Option Addr} {k0 k1 k2 k3 k5 : Option Value} {newId : String} {mN mA : Str → Option Value}
theorem fn_bind {tp : Value} {R : Result → Shared → Prop} (ho : h.get? f = some of) (hc : of.cls = .type "function") (hq : R (.ok (.ret (.ref h.objs.size))) ⟨h.push (W.methodObj (.ref f) (.ref x)), g, d, t, os⟩) :
    codeAny (model prog w) A (.call (.builtin "function.__get__") ⟨[.ref f, .ref x, tp], []⟩) R ⟨h, g, d, t, os⟩ := by
  refine codeAny_call_builtin W.KF.slot_fn.plain W.KF.entry_fn (W.KF.slot_fn.check _ _ _ _ _ _ _ _ ⟨_, ho, hc⟩ (W.KF.args_fn _ _ _) ?_)
  repeat k_node
  exact hq
theorem bound_entry {tk : Tok} {Q : Fin → Shared → Prop}
    (hC : h.get? C = some (excClassObj nm q C N bs [.type "object"] true sn sub ab col dd k0 k1 k2 k3 k5 newId)) (hn : h.Ns N mN) (hf : mN "_read_char" = some (.ref f)) (hg0 : mN "__getattr__" = none) (hfo : h.get? f = some of) (hfc : of.cls = .type "function")
    (I : h.Inst x C mA) (hv : mA "_read_char" = none) (hq : Q (.done (.ret (.ref h.objs.size))) ⟨h.push (W.methodObj (.ref f) (.ref x)), g, d, t, os⟩) :
    wpAny (model prog w) A (Builtin.«proto.getattr_hooked» ⟨[.ref x, .str "_read_char" tk], []⟩) Q E ⟨h, g, d, t, os⟩ := by
  have hB := no_obj "_read_char" (by simp)
  obtain ⟨o, hx, hc, hnc, hd⟩ := I
  have hT : (⟨h, g, d, t, os⟩ : Shared).TypeIs (.ref f) "function" := ⟨_, hfo, hfc⟩
  have f1 := fn_get0
  have f2 := fn_set0
  have f3 := fn_del0
  unfold Builtin.«proto.getattr_hooked»
  repeat (first | (with_reducible refine wpAny_loadPart_at hx ?_; rw [hc]) | (with_reducible refine wpAny_typeLookup_exc hC hn F.mro_object hB ?_; rw [hf]) | wp_step)
  split
  · rename_i c hcd
    exact absurd hcd (hnc c)
  unfold instanceDict
  repeat (first | (with_reducible refine wpAny_loadPart_at hx ?_; rw [hc]) | with_reducible refine wpAny_loadPart_at hC ?_ | wp_step)
  rcases hd with ⟨hdn, _⟩ | ⟨dx, hdx, _, hns⟩
  · rw [hdn]
    repeat (first | (with_reducible refine wpAny_typeLookup_exc hC hn F.mro_object F.lk_object_getattr ?_; rw [hg0]) | wp_step)
    exact fn_bind hfo hfc (wpAny_pure hq)
  · rw [hdx]
    obtain ⟨od, hod, hl⟩ := ns_look hns.ns
    repeat (first | (with_reducible refine wpAny_loadPart_at hod ?_; rw [hl, hv]) | (with_reducible refine wpAny_typeLookup_exc hC hn F.mro_object F.lk_object_getattr ?_; rw [hg0]) | wp_step)
    exact fn_bind hfo hfc (wpAny_pure hq)
theorem bound_attr {expr : Bool} {Q : Value → Shared → Prop}
    (hC : h.get? C = some (excClassObj nm q C N bs [.type "object"] true sn sub ab col dd k0 k1 k2 k3 k5 newId)) (hn : h.Ns N mN) (hng : mN "__getattribute__" = none) (hf : mN "_read_char" = some (.ref f)) (hg0 : mN "__getattr__" = none) (hfo : h.get? f = some of) (hfc : of.cls = .type "function")
    (I : h.Inst x C mA) (hv : mA "_read_char" = none) (hq : Q (.ref h.objs.size) ⟨h.push (W.methodObj (.ref f) (.ref x)), g, d, t + 1, os⟩) :
    wpAny (model prog w) A (getAttr (.ref x) "_read_char" expr) Q E ⟨h, g, d, t, os⟩ := by
  obtain ⟨o, hx, hc, _⟩ := id I
  unfold getAttr getAttrBy
  repeat (first | (with_reducible refine wpAny_loadPart_at hx ?_; rw [hc]) | (with_reducible refine wpAny_typeLookup_exc hC hn F.mro_object F.lk_object_ga ?_; rw [hng]) | wp_step)
  show wpAny _ _ ((runValue (.builtin "proto.getattr_hooked" ⟨[.ref x, .str "_read_char" t], []⟩)).onRaise (noteIf true (.ref x) (.str "_read_char" t))) _ _ _
  refine wpAny_onRaise (wpAny_runValue (codeAny_builtin F.plainObj_entry_getattr_hooked (bound_entry hC hn hf hg0 hfo hfc I hv ?_)))
  show wpAny _ _ (handedOut (.ref _)) _ _ _
  exact wpAny_pure hq
end
end Mine
namespace Mine
open PySem PyProof.Rows
abbrev pw := PySem.Challenge.pw_ph0119_02
abbrev ci : Nat := 1
abbrev si : Nat := 58
end Mine
namespace Mine
open PySem PyProof.Rows
section
variable {T : Tp} {c : Cfg} {Φ : Fns} {k : Nat} {A : Around} {s s' : Shared} {κ κ' : Addr → Col} {γ γ' : Nat → Addr} {σ σ' : Sto} {n : Nat}
/-- the lexer's field that is read as an attribute of a name -/
theorem attr_self {N : Addr} {mN : Str → Option Value} (X : LexTop T N mN) (O : TopOk T c) {env : Env} {sc : Scope} {m : Fm} (I : Inv T s κ γ σ) (F : FrOk T env sc m s.heap κ γ σ.nx) {l : Nat} {x n : Str} {p p' : Pos} {mA : Str → Option Value} {v : Value}
    (hx : look c sc m x = some (.loc l)) (hi : s.heap.Inst (γ l) T.C mA) (hn : n ∈ lexNames) (hv : mA n = some v) (hh : handedOut v = pure v) {Q : Value → Shared → Prop} (h : Q v { s with toks := s.toks + 1 }) :
    wpAny (model T.prog T.w) A (eval (.Attribute (.Name x p) n p') env) Q NoE s := by
  rw [arm_eval_Attribute, base_plain rfl]
  have z := look_ok (A := A) O I F hx (Q := fun u s₁ => u = .ref (γ l) ∧ s₁ = s) fun u r => ⟨r.1, rfl⟩
  refine wpAny_bind (wpAny_Name (wpAny_mono z.2 (fun u s₁ q => ?_) fun _ _ z => z) z.1)
  obtain ⟨rfl, rfl⟩ := q
  exact wpAny_bind (wpAny_standAt (wpAny_bind (wpAny_holding (lex_load X I hi hn hv hh (wpAny_bind (wpAny_letTemporaryGo (wpAny_pure h)))))))
/-- the lexer's line of pushed words is rewritten -/
theorem upd_push (I : Inv T s κ γ σ) {l : Nat} {ln : Int} {lf : Nat} {push push' : List AV} {d pb : Addr} {us : List Value} {ep' : Nat} {sv : Value} {t u : Tok} {mA : Str → Option Value} {h' : Heap} {tk : Nat} (hg : σ.get l = some (.lexer ln lf push))
    (hi : s.heap.Inst (γ l) T.C mA) (N : s.heap.Ns1 d mA) (hd : d ≠ γ l) (ho : ∃ o, s.heap.get? (γ l) = some o ∧ o.dict = some d) (c1 : κ (γ l) = .ob l) (c2 : κ d = .ob l) (c3 : κ pb = .ob l) (a5 : pb ≠ d) (a6 : pb ≠ γ l) (m1 : mA "lineno" = some (.int ln t))
    (m2 : mA "instream" = some sv) (r1 : Rep T s.heap κ γ σ.nx (.stream lf) sv) (m3 : mA "whitespace" = some (.str blanks u)) (m4 : mA "pushback" = some (.ref pb)) (m5 : ∀ x, x ∉ lexNames → mA x = none)
    (hs : Heap.SameBut pb s.heap h') (hl : h'.get? pb = some (lobj us ep')) (hb : push'.length ≤ 2 ^ 24) (r : RepL T s.heap κ γ σ.nx push' us) :
    Step Pe s κ γ σ.nx { s with heap := h', toks := tk } κ γ σ.nx ∧ Inv T { s with heap := h', toks := tk } κ γ (σ.upd l (.lexer ln lf push')) := by
  have hn := (I.objs _ _ hg).1
  have hk : ∀ a o, κ a ≠ .ob l → s.heap.get? a = some o → h'.get? a = some o := fun a o hne e => (hs.2 a (by rintro rfl; exact hne c3)).trans e
  obtain ⟨o, q1, q2, q3, q4⟩ := hi
  obtain ⟨o', ho, hod⟩ := ho
  rw [q1] at ho
  injection ho with ho
  subst ho
  refine ⟨.upd hk fun a e => ?_, I.upd hn hk ⟨o, d, pb, us, ep', sv, t, u, mA, (hs.2 _ a6.symm).trans q1, q2, q3, hod, hd, Heap.Ns1.at N fun o ho => (hs.2 d a5.symm).trans ho, c1, c2, c3, a5, a6, m1, m2, r1.lasts (.upd hk), m3, m4, m5, hl, hb, r.lasts (.upd hk)⟩⟩
  by_cases ha : a = pb
  · subst ha; rw [hl]; rfl
  · rw [hs.2 a ha]; exact e
theorem evs_name1 {x : Str} {p : Pos} {sc : Scope} {m : Fm} {v : AV} (h : look c sc m x = some v) : evs c Φ [.Name x p] sc m σ = some ([v], σ) := by simp [evs, ev, h]
theorem look_ok' (O : TopOk T c) {env : Env} {sc : Scope} {m : Fm} (I : Inv T s κ γ σ) (F : FrOk T env sc m s.heap κ γ σ.nx) {x : Str} {p : Pos} {v : AV} (e : look c sc m x = some v) {Q : Value → Shared → Prop}
    (h : ∀ u, Rep T s.heap κ γ σ.nx v u → Q u s) : wpAny (model T.prog T.w) A (eval (.Name x p) env) Q NoE s :=
  let z := look_ok (A := A) O I F e h
  wpAny_Name z.2 z.1
/-- a method's call, by its parts -/
theorem call_attr {prog : Program} {w : World} {env : Env} {x : Expr} {nm : Str} {ap p : Pos} {es : List Expr} {Q : Value → Shared → Prop} (hb : okBase x = true) (hline : ap.endLine = p.line) (hlen : es.length < 30) (hstar : (backTo p (starEach es env)).all (fun x => !x.1) = true)
    (h : wpAny (model prog w) A (eval x env) (fun a s₁ => ∀ pl, wpAny (model prog w) A (getMethod a nm pl) (fun fm s₂ => wpAny (model prog w) A (callWith p fm.1 fm.2 (backTo p (starEach es env)) []) Q NoE s₂) NoE s₁) NoE s) :
    wpAny (model prog w) A (eval (.Call (.Attribute x nm ap) es [] p) env) Q NoE s := by
  rw [arm_eval_Call, base_plain hb]
  refine wpAny_bind (wpAny_mono h (fun a s₁ q => wpAny_bind (wpAny_standAt ?_)) fun _ _ z => z)
  have hform : methodCallForm (es.length + ([] : List Keyword).length) (backTo p (starEach es env)) (backToKw p (keywordEach [] env)) = true := by
    unfold methodCallForm
    rw [hstar]
    show (true && true && decide (es.length + 0 + 0 < 30)) = true
    simpa using hlen
  have hpos : methodCallPos true x env ap p = pure p := by unfold methodCallPos; simp [hline]
  unfold methodCall
  rw [hform]
  refine wpAny_bind (wpAny_holding ?_)
  show wpAny _ A (getMethod a nm _) _ NoE s₁
  exact wpAny_mono (q _) (fun fm s₂ q => wpAny_bind (wpAny_of_eq hpos q)) fun _ _ z => z
theorem push_ok {N : Addr} {mN : Str → Option Value} (X : LexTop T N mN) (O : TopOk T c) {a : Addr} {fd : FuncData} (D : FdAt T.h₀ a fd (bodyOf (methAt pw ci 3)) ["self", "token"]) (hclo : fd.closure = []) (hsc : fd.scope = scopeOf (methAt pw ci 3)) (hu : T.fnV "push_token" = some (.ref a))
    {args : List AV} {z : AV} {u : Value} {vs : List Value} (e : primPush args σ = some (z, σ')) (hA : AOk A (k + 1)) (I : Inv T s κ γ σ) (hu' : T.fnV "push_token" = some u) (r : RepL T s.heap κ γ σ.nx args vs) : wpAny (model T.prog T.w) A (call u vs) (EvP T s κ γ σ.nx z σ') NoE s := by
  rw [hu] at hu'
  injection hu' with hu'
  subst hu'
  have hk0 : ∀ b o, T.h₀.get? b = some o → s.heap.get? b = some o := fun b o e => (I.base b o e).1
  unfold primPush at e
  split at e
  · rename_i l t
    split at e
    · rename_i ln lf ts hg
      split at e
      case isFalse => cases e
      rename_i h20
      simp only [Option.some.injEq, Prod.mk.injEq] at e
      obtain ⟨rfl, rfl⟩ := e
      obtain ⟨v1, us, rfl, r1, v2, us2, rfl, r2, hus⟩ := r
      rw [show us2 = [] from hus]
      refine fd_frame (k := k) (D.keeps hk0) hclo (by rw [hsc]; decide) hA I (O.nolimit.keeps hk0) rfl (args := [.loc l, t]) ⟨_, _, rfl, r1, _, _, rfl, r2, rfl⟩ fun env h₁ tk κ₁ hes hA1 F1 I1 S1 hown => ?_
      rw [hsc] at F1
      obtain ⟨d, pb, ws, ep, sv, tl, tw, mA, hi, hN1, hd, ho, c1, c2, c3, a5, a6, m1, m2, rs, m3, m4, m5, hpb, hb, rp⟩ := lex_inst I1 hg
      refine wpAny_execs_cons ?_
      rw [exec_Expr (hi := by unfold interactive; rw [F1.kind]; rfl) (hs := rfl)]
      refine wpAny_bind (wpAny_standAt (wpAny_bind ?_))
      refine call_attr rfl rfl (by decide) rfl (attr_self X O I1 F1 (l := l) (by kernel_rfl) hi (by simp [lexNames]) m4 rfl fun pl => ?_)
      refine Calls.getMethod_list_append hpb rfl rfl ?_
      refine Calls.callWith_builtin rfl (Calls.evalArgs_plain (Calls.spliced_cons ?_))
      refine (look_ok' (A := A.deeper env) O I1.toks (F1.step .toks) (v := t) (by kernel_rfl) fun w rw' => Calls.spliced_nil ?_)
      have hrl := rp.length
      refine call_meets PySem.F.slot_list_append ⟨_, hpb, rfl⟩ PySem.F.entry_list_append (PySem.F.args_list_append_2 _ _) (list_append pb ws.toArray ep w (by simp only [List.size_toArray, sizeLine]; omega)) ⟨hpb, ?_⟩
      obtain ⟨e2, hself⟩ : ∃ e2, (h₁.update pb (Obj.mapSeq fun x => x.push w)).get? pb = some (lobj (ws ++ [w]) e2) := by
        rw [Heap.get?_update_self _ hpb rfl]; simp [lobj, Obj.mapSeq]
      obtain ⟨S3, I3⟩ := upd_push (push' := ts ++ [t]) (tk := tk + 1) I1 hg hi hN1 hd ho c1 c2 c3 a5 a6 m1 m2 rs m3 m4 m5 (Heap.SameBut.update ..) hself (by simp; omega) (rp.append (.one rw'))
      refine wpAny_dropValue ?_
      exact wpAny_execs_nil ⟨_, _, S1.te S3, I3, rfl⟩
    · cases e
  · cases e
end
end Mine
set_option maxRecDepth 100000
namespace Mine
open PySem PyProof.Rows
section
variable {T : Tp} {c : Cfg} {Φ : Fns} {k : Nat} {A : Around} {s s' : Shared} {κ κ' : Addr → Col} {γ γ' : Nat → Addr} {σ σ' : Sto} {n : Nat}
/-- what must stand at the top for the stream's def -/
structure StreamTop (T : Tp) (P : Addr) (pm : Value) : Prop where
  fn : ∃ a o cd doc c, T.fnV "_law_stream" = some (.ref a) ∧ T.h₀.get? a = some o ∧ o.data = .func (Calls.docDef "_law_stream" (argsOf (defAt pw si)) (bodyOf (defAt pw si)) (scopeOf (defAt pw si)) pm cd doc) ∧ T.h₀.CodeRec cd "_law_stream" ∧ cd = .ref c ∧ W.CodeHd T.h₀ c P
  top : ∃ mg, T.h₀.Ns mainGlobals mg ∧ T.h₀.BuiltinsAt mg P
  nolimit : T.h₀.NoLimit
  objs : T.StreamObjs = StreamIs pw si
theorem stream_ok {P : Addr} {pm : Value} (X : StreamTop T P pm) {l : Nat} {v u : Value} (hA : AOk A (k + 1)) (I : Inv T s κ γ σ) (hP' : T.tabA = P) (h0 : σ.get 0 = some (.tab true)) (hl : l ≠ 0) (hl' : l < σ.nx) (hu : T.fnV "_law_stream" = some u) (rv : Rep T s.heap κ γ σ.nx (.loc l) v) :
    wpAny (model T.prog T.w) A (call u [v]) (EvP T s κ γ σ.nx (.stream l) (σ.upd 0 (.tab false))) NoE s := by
  obtain ⟨a, o, cd, doc, cc, hf, ho, hdat, hcd, hcc, C⟩ := X.fn
  rw [hf] at hu
  injection hu with hu
  subst hu
  obtain ⟨mg, hmg, hb⟩ := X.top
  have hk0 : ∀ b o, T.h₀.get? b = some o → s.heap.get? b = some o := fun b o e => (I.base b o e).1
  obtain ⟨hn0, hgam0, hc0, ps, hgP, hps⟩ := I.objs _ _ h0
  have hP : γ 0 = P := hgam0.trans hP'
  rw [hps rfl] at hgP
  obtain ⟨rfl, _⟩ := rv
  refine wpAny_call (call_cells_ret (by have := hA.depth; omega) (hk0 _ _ ho) hdat (X.nolimit.keeps hk0) (CodeRec.keeps' hcd hk0) (binds := [("left", .ref (γ l))]) (by kernel_rfl) ?_ (fun h₁ tk F Y => ?_) (by decide) (by decide) (by decide))
  · intro x hx
    rw [List.mem_singleton.mp hx]
    exact .inr ⟨by kernel_rfl, by kernel_rfl⟩
  have hcell : h₁.IsCell (s.heap.objs.size + 1) (some (.ref (γ l))) := Y.cell "left" (s.heap.objs.size + 1) (by kernel_rfl)
  have hPN : P < s.heap.objs.size := hP ▸ Heap.lt_size hgP
  have hgP1 : h₁.get? P = some (W.tabObj #[]) := F.keep _ _ (hP ▸ hgP)
  have hk1 : ∀ b o, T.h₀.get? b = some o → h₁.get? b = some o := fun b o e => F.keep _ _ (hk0 b o e)
  have hgN : mainGlobals ≠ P := fun q => by
    obtain ⟨o, es, ep, e, hd, _⟩ := hmg
    have := hk1 _ _ e
    rw [q, hgP1] at this; injection this with this; subst this; cases hd
  have hbK : ∀ {h'' : Heap}, (∀ b o, b ≠ P → T.h₀.get? b = some o → h''.get? b = some o) → h''.BuiltinsAt mg P := fun {h''} q => by
    obtain ⟨bm, o, b1, b2, b3, b4, b5, r⟩ := hb
    exact ⟨bm, o, b1, b2, b3, b4, q _ _ b4 b5, r⟩
  have hcl : closureFor (scopeOf (readOf pw si)) (envOfC "_law_stream" (scopeOf (defAt pw si)) s.heap.objs.size a cd) = pure [((Str.ofString "left"), s.heap.objs.size + 1)] := by
    refine (closureFor_eq (env := envOfC "_law_stream" (scopeOf (defAt pw si)) s.heap.objs.size a cd) (scope := scopeOf (readOf pw si)) fun x hx hk => ?_).trans ?_
    · have : x = (Str.ofString "size", NameKind.local) ∨ x = (Str.ofString "left", NameKind.free) := by
        have h2 : (scopeOf (readOf pw si)).names = [(Str.ofString "size", NameKind.local), (Str.ofString "left", NameKind.free)] := by kernel_rfl
        rw [h2] at hx
        simpa using hx
      rcases this with rfl | rfl
      · cases hk
      · kernel_rfl
    · kernel_rfl
  refine wpAny_execs_cons (W.nestDef_K rfl rfl rfl (W.makeFunction_K (mg := mg) hcl rfl (hmg.keeps hk1) hcc (C.keeps hk1) hgP1 trivial rfl hgN (hbK fun b o _ e => hk1 b o e) fun c' ctv doc' h2 tk2 hx2 hge2 hlt2 hrec2 hP2 => ?_))
  have e2 : ∀ b o, b ≠ P → h₁.get? b = some o → h2.get? b = some o := hx2
  generalize hN : s.heap.objs.size = N at *
  have hN1 : N < h₁.objs.size := by obtain ⟨o, _, _, e, _⟩ := F.ns; exact Heap.lt_size e
  have hc2 : h2.IsCell (N + 1) (some (.ref (γ l))) := by obtain ⟨o, e, q⟩ := hcell; exact ⟨o, e2 _ _ (Nat.ne_of_gt (Nat.lt_succ_of_lt hPN)) e, q⟩
  have hcl2 : N + 1 < h₁.objs.size := by obtain ⟨o, e, q⟩ := hcell; exact Heap.lt_size e
  have hns2 := (F.ns.extBut hx2 (Nat.ne_of_gt hPN)).push (W.fnMade "_law_read" (qualnameIn (envOfC "_law_stream" (scopeOf (defAt pw si)) N a cd) "_law_read" "_law_read") (argsOf (readOf pw si)) (bodyOf (readOf pw si)) (scopeOf (readOf pw si)) [("left", N + 1)] doc' ((mg "__name__").getD .none) c' ctv)
  refine wpAny_storeName_local (by kernel_rfl) hns2 (fun h3 hns3 hs3 => ?_) (by kernel_rfl)
  have hf2 : h2.objs.size < (h2.push (W.fnMade "_law_read" (qualnameIn (envOfC "_law_stream" (scopeOf (defAt pw si)) N a cd) "_law_read" "_law_read") (argsOf (readOf pw si)) (bodyOf (readOf pw si)) (scopeOf (readOf pw si)) [("left", N + 1)] doc' ((mg "__name__").getD .none) c' ctv)).objs.size := by rw [Heap.size_push]; exact Nat.lt_succ_self _
  have hNf : N ≠ h2.objs.size := Nat.ne_of_lt (Nat.lt_of_lt_of_le (Nat.lt_of_lt_of_le hN1 hge2) (Nat.le_of_lt hlt2))
  have hPf : P ≠ h2.objs.size := Nat.ne_of_lt (Nat.lt_of_lt_of_le hPN (Nat.le_trans (Nat.le_of_lt hN1) (Nat.le_trans hge2 (Nat.le_of_lt hlt2))))
  have e3 : ∀ b o, b ≠ N → h2.get? b = some o → h3.get? b = some o := fun b o q e => (hs3.2 b q).trans (Heap.get?_push_of_some _ e)
  have hff : h3.get? h2.objs.size = some (W.fnMade "_law_read" (qualnameIn (envOfC "_law_stream" (scopeOf (defAt pw si)) N a cd) "_law_read" "_law_read") (argsOf (readOf pw si)) (bodyOf (readOf pw si)) (scopeOf (readOf pw si)) [("left", N + 1)] doc' ((mg "__name__").getD .none) c' ctv) := (hs3.2 _ hNf.symm).trans (Heap.get?_push_size _ rfl)
  have hP3 : h3.get? P = some (W.tabObj (#[] ++ #[rawInt _, rawInt _, .ref c'])) := e3 _ _ (Nat.ne_of_lt hPN) hP2
  have hk3 : ∀ b o, b ≠ P → T.h₀.get? b = some o → h3.get? b = some o := fun b o q e => e3 _ _ (Nat.ne_of_lt (hN ▸ Heap.lt_size (hk0 b o e))) (e2 _ _ q (hk1 b o e))
  have hkP : ∀ b o, T.h₀.get? b = some o → b ≠ P := fun b o e q => by
    have := (I.base _ _ e).2
    rw [q, ← hP, hc0] at this
    cases this
  -- the lambda
  refine wpAny_execs_cons (wpAny_Assign_Name (W.kla_eval (by kernel_rfl) (W.kla_makeFunction (mg := mg) (clos := []) (by kernel_rfl) rfl (hmg.keeps fun b o e => hk3 b o (hkP b o e) e) hcc (C.keeps fun b o e => hk3 b o (hkP b o e) e) hP3 ?_ ?_ hgN (hbK fun b o q e => hk3 b o q e) fun c4 ctv4 h4 tk4 hx4 hge4 hlt4 hrec4 hP4 => ?_)) rfl)
  · exact trivial
  · kernel_rfl
  have hsz3 : h3.objs.size = h2.objs.size + 1 := by rw [hs3.1, Heap.size_push]
  have hns4 : ∀ o, (h4.push o).Ns N _ := fun o => (hns3.extBut hx4 (Nat.ne_of_gt hPN)).push o
  refine wpAny_storeName_local (by kernel_rfl) (hns4 _) (fun h5 hns5 hs5 => ?_) (by kernel_rfl)
  have g2 : h₁.objs.size ≤ c' := hge2
  have g4 : h3.objs.size ≤ c4 := hge4
  have hN4 : N < h4.objs.size := by omega
  have e5 : ∀ b o, b ≠ N → b ≠ P → h3.get? b = some o → h5.get? b = some o := fun b o q q' e => (hs5.2 b q).trans (Heap.get?_push_of_some _ (hx4 b o q' e))
  have hla : ∃ o, h5.get? h4.objs.size = some o ∧ o.cls = .type "function" ∧ (∃ fd, o.data = .func fd) ∧ o.dict = none := ⟨_, (hs5.2 _ (Nat.ne_of_gt hN4)).trans (Heap.get?_push_size _ rfl), rfl, ⟨_, rfl⟩, rfl⟩
  obtain ⟨la, hla, hlc, hld, hln⟩ := hla
  have hP5 : ∃ ps, h5.get? P = some (W.tabObj ps) := ⟨_, (hs5.2 _ (Nat.ne_of_lt hPN)).trans (Heap.get?_push_of_some _ hP4)⟩
  -- the attribute
  refine wpAny_execs_cons (plainObj_wpAny_Assign_Attribute (wpAny_Name (wpAny_loadName_local (by kernel_rfl) (by kernel_rfl) hns5 (v := .ref h2.objs.size) (by kernel_rfl) (wpAny_Name (wpAny_loadName_local (by kernel_rfl) (by kernel_rfl) hns5 (v := .ref h4.objs.size) (by kernel_rfl) ?_) (by decide))) (by decide)) rfl)
  refine fn_store hla hlc hld hln fun h7 tk7 dx hdx hda FO hk7 hsz7 hd7 => ?_
  have s5 : h5.objs.size = h4.objs.size + 1 := by rw [hs5.1, Heap.size_push]
  have gdx : h5.objs.size ≤ dx := hdx
  have lNd : N < dx := by omega
  have hlN : N ≠ h4.objs.size := Nat.ne_of_lt hN4
  have hlP : P ≠ h4.objs.size := Nat.ne_of_lt (Nat.lt_trans hPN hN4)
  have e7 : ∀ b o, b ≠ N → b ≠ P → b ≠ h4.objs.size → h3.get? b = some o → h7.get? b = some o := fun b o q1 q2 q3 e => hk7 b o q3 (e5 b o q1 q2 e)
  have hns7 := Heap.Ns.at' hns5 fun o ho => hk7 _ _ hlN ho
  -- the return
  refine wpAny_execs_cons (wpAny_Return_some (wpAny_Name (wpAny_loadName_local (by kernel_rfl) (by kernel_rfl) hns7 (v := .ref h4.objs.size) (by kernel_rfl) ?_) (by decide)))
  have l34 : h3.objs.size ≤ h4.objs.size := by omega
  have lt3 : ∀ {b o}, h3.get? b = some o → b ≠ h4.objs.size := fun {b o} e => Nat.ne_of_lt (Nat.lt_of_lt_of_le (Heap.lt_size e) l34)
  have nN : ∀ {b : Nat}, N < b → b ≠ N := fun h => Nat.ne_of_gt h
  have nP : ∀ {b : Nat}, N ≤ b → b ≠ P := fun h => Nat.ne_of_gt (Nat.lt_of_lt_of_le hPN h)
  have c'N : N < c' := by omega
  have hPP : ∃ ps, h7.get? (γ 0) = some { cls := .none, data := .fields ps } := by
    obtain ⟨ps, e⟩ := hP5
    exact ⟨ps, hP ▸ hk7 _ _ hlP e⟩
  have hkeep : ∀ b o, b ≠ γ 0 → s.heap.get? b = some o → h7.get? b = some o := fun b o q e => by
    have hb : b < N := hN ▸ Heap.lt_size e
    have q' : b ≠ P := hP ▸ q
    have e3' := e3 b o (Nat.ne_of_lt hb) (e2 b o q' (F.keep b o e))
    exact e7 b o (Nat.ne_of_lt hb) q' (lt3 e3') e3'
  obtain ⟨S, I'⟩ := grow (tk := tk7) I h0 hkeep hPP
  obtain ⟨ob, hob, hobc, hobd, hobx⟩ := FO.obj
  obtain ⟨od, es, ep, hod, hodd, hodk, hodm⟩ := FO.ns
  obtain ⟨c2, oc, vs, t, hc2e, hoc, hocd, hocv⟩ := hrec2
  injection hc2e with hc2e
  subst hc2e
  obtain ⟨ocl, hocl, hocld⟩ := hc2
  have c3 : h3.get? c' = some oc := e3 _ _ (nN c'N) hoc
  have cl3 : h3.get? (N + 1) = some ocl := e3 _ _ (nN (Nat.lt_succ_self _)) hocl
  refine ⟨_, γ, S, I', h4.objs.size, [(h4.objs.size, ob), (dx, od), (h2.objs.size, W.fnMade "_law_read" (qualnameIn (envOfC "_law_stream" (scopeOf (defAt pw si)) N a cd) "_law_read" "_law_read") (argsOf (readOf pw si)) (bodyOf (readOf pw si)) (scopeOf (readOf pw si)) [("left", N + 1)] doc' ((mg "__name__").getD .none) c' ctv), (c', oc), (N + 1, ocl)], rfl, ?_, ?_, by rw [show (σ.upd 0 (.tab false)).nx = σ.nx from rfl]; exact hl'⟩
  · have fresh : ∀ b, N ≤ b → (s.heap.get? b).isSome = false := fun b hb => by
      cases e : s.heap.get? b with
      | none => rfl
      | some o => exact absurd (Heap.lt_size e) (Nat.not_lt.mpr (hN ▸ hb))
    intro p hp
    simp only [List.mem_cons, List.not_mem_nil, or_false] at hp
    have col : ∀ b, N ≤ b → (if (s.heap.get? b).isSome = true then κ b else Col.fz) = .fz := fun b hb => by rw [fresh b hb]; rfl
    rcases hp with rfl | rfl | rfl | rfl | rfl
    · exact ⟨col _ (by omega), hob⟩
    · exact ⟨col _ (by omega), hod⟩
    · exact ⟨col _ (by omega), e7 _ _ hNf.symm hPf.symm (lt3 hff) hff⟩
    · exact ⟨col _ (by omega), e7 _ _ (nN c'N) (nP (Nat.le_of_lt c'N)) (lt3 c3) c3⟩
    · exact ⟨col _ (by omega), e7 _ _ (nN (Nat.lt_succ_self _)) (nP (Nat.le_succ _)) (lt3 cl3) cl3⟩
  · rw [X.objs]
    exact ⟨dx, h2.objs.size, c', N + 1, ob, od, oc, ocl, _, _, _, _, rfl, hobc, hobd, hobx, hda, ⟨es, ep, hodd, hodk, hodm⟩, ⟨vs, t, hocd, hocv⟩, hocld⟩
end
end Mine
set_option maxRecDepth 100000
namespace Mine
open PySem PyProof.Rows
section
variable {T : Tp} {c : Cfg} {Φ : Fns} {k : Nat} {A : Around} {s s' : Shared} {κ κ' : Addr → Col} {γ γ' : Nat → Addr} {σ σ' : Sto} {n : Nat}
structure Own (T : Tp) (h0 : Heap) (x dx L : Addr) (mL mA : Str → Option Value) (h : Heap) : Prop where
  keep : ∀ b o, h0.get? b = some o → h.get? b = some o
  inst : h.Inst x T.C mA
  dict : ∃ ox, h.get? x = some ox ∧ ox.dict = some dx
  ns : h.Ns L mL
theorem self_store {N : Addr} {mN : Str → Option Value} (X : LexTop T N mN) {h0 h : Heap} {g : Array GenState} {d : Drawn} {t : Nat} {os : OsState} {x dx L : Addr} {mL mA : Str → Option Value} {nm : Str} {v : Value} {ns : List Str} {Q : Unit → Shared → Prop}
    (base : ∀ b o, T.h₀.get? b = some o → h0.get? b = some o) (hx0 : h0.get? x = none) (hd0 : h0.get? dx = none) (hLx : L ≠ x) (hLd : L ≠ dx) (W : Own T h0 x dx L mL mA h) (hn : nm ∈ lexNames) (hw : Within mA ns) (hsz : ns.length ≤ sizeLine)
    (hq : ∀ h' tk', Own T h0 x dx L mL (fun y => if y = nm then some v else mA y) h' → (∀ b o, b ≠ x → b ≠ dx → h.get? b = some o → h'.get? b = some o) → Q () ⟨h', g, d, tk', os⟩) :
    wpAny (model T.prog T.w) A (setAttr (.ref x) nm v) Q NoE ⟨h, g, d, t, os⟩ := by
  have hk : ∀ b o, T.h₀.get? b = some o → h.get? b = some o := fun b o e => W.keep b o (base b o e)
  obtain ⟨nm', q, bs, sn, sub, col, dd, k0, k1, k2, k3, k5, hC⟩ := (X.cls.keeps hk).obj
  obtain ⟨nm', q, bs, sn, sub, col, dd, k0, k1, k2, k3, k5, hC0⟩ := X.cls.obj
  have hm : nm = "lineno" ∨ nm = "instream" ∨ nm = "whitespace" ∨ nm = "pushback" := by simpa [lexNames] using hn
  obtain ⟨ox, hox, hod⟩ := W.dict
  have hxC : x ≠ T.C := by
    rintro rfl
    have := base _ _ hC0
    rw [hx0] at this; cases this
  refine store_attr PySem.F.store_object hC (X.cls.keeps hk).ns (X.no _ (by simp)) (X.no _ (by rcases hm with rfl | rfl | rfl | rfl <;> simp)) (no_obj _ (by rcases hm with rfl | rfl | rfl | rfl <;> simp)) hxC W.inst (fun h' tk' I' hkk hsame => ?_) hw hsz
  have kk : ∀ b o, b ≠ x → b ≠ dx → h.get? b = some o → h'.get? b = some o := fun b o h1 h2 e => hkk b o h1 (fun o₀ d' e₀ ed => by
    rw [hox] at e₀; injection e₀ with e₀; subst e₀; rw [hod] at ed; injection ed with ed; subst ed; exact h2) e
  obtain ⟨o1, e1, _, _, _, dk⟩ := hsame ox hox
  refine hq h' tk' ⟨fun b o e => kk b o (by rintro rfl; rw [hx0] at e; cases e) (by rintro rfl; rw [hd0] at e; cases e) (W.keep b o e), I', ⟨o1, e1, dk _ hod⟩, Heap.Ns.at' W.ns fun o ho => kk _ _ hLx hLd ho⟩ kk
theorem netrclex_ok {N : Addr} {mN : Str → Option Value} (X : LexTop T N mN) {fi : Addr} {fd : FuncData} (D : FdAt T.h₀ fi fd (bodyOf (methAt pw ci 0)) ["self", "fp"]) (hsc : fd.scope = scopeOf (methAt pw ci 0)) (hi : mN "__init__" = some (.ref fi))
    {l : Nat} {v : Value} (hA : AOk A (k + 2)) (I : Inv T s κ γ σ) (rv : Rep T s.heap κ γ σ.nx (.stream l) v) :
    wpAny (model T.prog T.w) A (call (.ref T.C) [v]) (EvP T s κ γ σ.nx (.loc σ.nx) (σ.new (.lexer 1 l []))) NoE s := by
  obtain ⟨h0, g, dr, tk, os⟩ := s
  have hk0 : ∀ b o, T.h₀.get? b = some o → h0.get? b = some o := fun b o e => (I.base b o e).1
  obtain ⟨nm', q, bs, sn, sub, col, dd, k0, k1, k2, k3, k5, hC⟩ := (X.cls.keeps hk0).obj
  obtain ⟨oi, hoi, hoc, hod⟩ := D.obj
  refine wpAny_call_obj_init PySem.F.objNew hC (X.cls.keeps hk0).ns hi (hk0 _ _ hoi) hoc fun h' x dx Mk => ?_
  have hk' : ∀ b o, T.h₀.get? b = some o → h'.get? b = some o := fun b o e => Mk.keeps _ _ (hk0 b o e)
  obtain ⟨ox, hx, hcx, hncx, hdx⟩ := Mk.inst
  have hdd := Mk.dict ox hx
  have hins := Mk.inst
  have hdx' : dx ≠ x ∧ h'.Ns1 dx fun _ => none := by
    rcases hdx with ⟨hn0, _⟩ | ⟨d', hd', hne', hns'⟩
    · rw [hn0] at hdd; cases hdd
    · obtain rfl := Option.some.inj (hd'.symm.trans hdd); exact ⟨hne', hns'⟩
  have hxlt : x < h'.objs.size := Heap.lt_size hx
  have hdlt : dx < h'.objs.size := by obtain ⟨o, _, _, e, _⟩ := hdx'.2; exact Heap.lt_size e
  have D' := D.keeps hk'
  refine wpAny_call (codeAny_call_def (by have := hA.depth; show A.depth + 1 < _; omega) (hk' _ _ hoi) hod (X.nolimit.keeps hk') D'.code D'.body (.of_eq (D'.binds [.ref x, v] rfl)) D'.nocell (fun y hy => D'.loc _ (List.of_mem_zip (a := y.1) (b := y.2) hy).1) (fun h1 hns hk1 => ?_) D'.co D'.gen D'.kind)
  have hLx : h'.objs.size ≠ x := Nat.ne_of_gt hxlt
  have hLd : h'.objs.size ≠ dx := Nat.ne_of_gt hdlt
  have W1 : Own T h0 x dx h'.objs.size _ (fun _ => none) h1 := ⟨fun b o e => hk1 _ _ (Mk.keeps _ _ e), hins.keeps hk1, ⟨ox, hk1 _ _ hx, hdd⟩, hns⟩
  have hkind : ∀ y, (callEnv fd h'.objs.size fi).kindOf y = (scopeOf (methAt pw ci 0)).names.lookup y := fun y => by show fd.scope.names.lookup y = _; rw [hsc]
  have hfk : (callEnv fd h'.objs.size fi).scope.kind = .function := D.kind
  generalize hB : ((A.under (.builtin "type.__call__" ⟨.ref T.C :: [v], []⟩)).deeper (callEnv fd h'.objs.size fi)) = B
  have nself : ∀ {h : Heap} {t : Nat} {mA : Str → Option Value} {p : Pos} {Q : Value → Shared → Prop} (W : Own T h0 x dx h'.objs.size (fun y => ((["self", "fp"] : List Str).zip [Value.ref x, v]).reverse.lookup y) mA h), Q (.ref x) ⟨h, g, dr, t, os⟩ →
      wpAny (model T.prog T.w) B (eval (.Name "self" p) (callEnv fd h'.objs.size fi)) Q NoE ⟨h, g, dr, t, os⟩ := fun W q =>
    wpAny_Name (wpAny_loadName_local hfk ((hkind _).trans (by kernel_rfl)) W.ns (by kernel_rfl) q) (by decide)
  refine wpAny_mono (E := NoE) (Q := fun fl s' => (match fl with | .ret v => v | _ => .none) = .none ∧ EvP T ⟨h0, g, dr, tk, os⟩ κ γ σ.nx (.loc σ.nx) (σ.new (.lexer 1 l [])) (.ref x) s') ?_ (fun fl s' q => q) fun _ _ z => z.elim
  refine wpAny_execs_cons (plainObj_wpAny_Assign_Attribute (wpAny_Constant_int (nself W1 (self_store (ns := []) X hk0 Mk.newX Mk.newD hLx hLd W1 (by simp [lexNames]) Within.nil (by decide) fun h2 tk2 W2 kk2 => ?_))) rfl)
  refine wpAny_execs_cons (plainObj_wpAny_Assign_Attribute (wpAny_Name (wpAny_loadName_local hfk ((hkind _).trans (by kernel_rfl)) W2.ns (v := v) (by kernel_rfl) (nself W2 (self_store (ns := ["lineno"]) X hk0 Mk.newX Mk.newD hLx hLd W2 (by simp [lexNames]) (Within.cons _ _ Within.nil) (by decide) fun h3 tk3 W3 kk3 => ?_))) (by decide)) rfl)
  refine wpAny_execs_cons (plainObj_wpAny_Assign_Attribute (wpAny_Constant_str (nself W3 (self_store (ns := ["instream", "lineno"]) X hk0 Mk.newX Mk.newD hLx hLd W3 (by simp [lexNames]) (Within.cons _ _ (Within.cons _ _ Within.nil)) (by decide) fun h4 tk4 W4 kk4 => ?_))) rfl)
  refine wpAny_execs_cons (plainObj_wpAny_Assign_Attribute (wpAny_List (wpAny_items_nil ⟨by decide, ?_⟩)) rfl)
  have hxl4 : x < h4.objs.size := by obtain ⟨o, e, _⟩ := W4.dict; exact Heap.lt_size e
  have hLl4 : h'.objs.size < h4.objs.size := by obtain ⟨o, _, _, e, _⟩ := W4.ns; exact Heap.lt_size e
  have hdl4 : dx < h4.objs.size := Nat.lt_trans hdlt hLl4
  have pk : ∀ b o, h4.get? b = some o → (h4.push (lobj [] 0)).get? b = some o := push_keeps _ _
  have W5 : Own T h0 x dx h'.objs.size _ _ (h4.push (lobj [] 0)) := ⟨fun b o e => pk _ _ (W4.keep b o e), W4.inst.keeps pk, let ⟨o, e, q⟩ := W4.dict; ⟨o, pk _ _ e, q⟩, W4.ns.keeps pk⟩
  refine nself W5 (self_store (ns := ["whitespace", "instream", "lineno"]) X hk0 Mk.newX Mk.newD hLx hLd W5 (by simp [lexNames]) (Within.cons _ _ (Within.cons _ _ (Within.cons _ _ Within.nil))) (by decide) fun h6 tk6 W6 kk6 => ?_)
  refine wpAny_execs_nil ⟨rfl, ?_⟩
  have hpx : h4.objs.size ≠ x := Nat.ne_of_gt hxl4
  have hpd : h4.objs.size ≠ dx := Nat.ne_of_gt hdl4
  have hpb : h6.get? h4.objs.size = some (lobj [] 0) := kk6 _ _ hpx hpd (Heap.get?_push_size _ rfl)
  have hpn : h0.get? h4.objs.size = none := by
    cases e : h0.get? h4.objs.size with
    | none => rfl
    | some o => exact absurd (Heap.lt_size (W4.keep _ _ e)) (Nat.lt_irrefl _)
  let κ2 : Addr → Col := fun b => if b = x ∨ b = dx ∨ b = h4.objs.size then .ob σ.nx else κ b
  have hc2 : ∀ b, (h0.get? b).isSome → κ2 b = κ b := fun b hb => if_neg (by
    rintro (rfl | rfl | rfl)
    · rw [Mk.newX] at hb; cases hb
    · rw [Mk.newD] at hb; cases hb
    · rw [hpn] at hb; cases hb)
  obtain ⟨o6, q1, q2, q3, q4⟩ := W6.inst
  obtain ⟨ox6, r1, r2⟩ := W6.dict
  rw [q1] at r1; injection r1 with r1; subst r1
  rcases q4 with ⟨hn0, _⟩ | ⟨d', hd', hne', hns'⟩
  · rw [r2] at hn0; cases hn0
  obtain rfl := Option.some.inj (r2.symm.trans hd')
  refine ⟨κ2, upg γ σ.nx x, .new (s := ⟨h0, g, dr, tk, os⟩) W6.keep hc2, I.new (s := ⟨h0, g, dr, tk, os⟩) W6.keep hc2 ?_, ⟨by rw [upg_self], Nat.lt_succ_self _⟩⟩
  have L := Lasts.new (κ := κ) (γ := γ) (n := σ.nx) (a := x) W6.keep hc2
  refine ⟨o6, dx, h4.objs.size, [], 0, v, ?tt, ?uu, _, by rw [upg_self]; exact q1, q2, q3, r2, by rw [upg_self]; exact hne', hns', by rw [upg_self]; exact if_pos (.inl rfl), if_pos (.inr (.inl rfl)), if_pos (.inr (.inr rfl)), hpd, by rw [upg_self]; exact hpx, ?m1, ?m2, rv.lasts L, ?m3, ?m4, fun y hy => ?m5, hpb, by simp, rfl⟩
  case m1 => rw [if_neg (by decide), if_neg (by decide), if_neg (by decide), if_pos rfl]
  case m2 => rw [if_neg (by decide), if_neg (by decide), if_pos rfl]
  case m3 =>
    rw [if_neg (by decide), if_pos rfl]
    exact congrArg (fun z => some (Value.str z _)) (by kernel_rfl)
  case m4 => rw [if_pos rfl]
  case m5 =>
    simp only [lexNames, List.mem_cons, List.not_mem_nil, or_false, not_or] at hy
    rw [if_neg hy.2.2.2, if_neg hy.2.2.1, if_neg hy.2.1, if_neg hy.1]
end
end Mine
set_option maxRecDepth 100000
namespace Mine
open PySem PyProof.Rows
section
variable {T : Tp} {c : Cfg} {Φ : Fns} {k : Nat} {A : Around} {s s' : Shared} {κ κ' : Addr → Col} {γ γ' : Nat → Addr} {σ σ' : Sto} {n : Nat}
/-- what the closure gives -/
def left? (lf : Nat) (σ : Sto) : Option (AV × Sto) := match σ.get lf with
  | some (.list []) => some (.str ⟨#[]⟩, σ)
  | some (.list (x :: xs)) => if (toPys 7 (x :: xs)).isSome then some (x, σ.upd lf (.list xs)) else none
  | _ => none
theorem eq_nil {lf : Nat} {xs : List AV} (h : σ.get lf = some (.list xs)) (hs : (toPys 7 xs).isSome) : eqA σ (.loc lf) (.list []) = some xs.isEmpty := by
  obtain ⟨ds, hd⟩ := Option.isSome_iff_exists.mp hs
  have h1 : shallow σ (.loc lf) = .list xs := by simp [shallow, h]
  have h2 : shallow σ (.list []) = .list [] := rfl
  unfold eqA
  simp only [h1, h2, toPy, toPys, hd, Option.map_some, Option.bind_some, Option.some.injEq]
  cases xs with
  | nil => simp [toPys] at hd; subst hd; simp [PyData.eqv, PyData.eqvAll]
  | cons x xs =>
    simp only [toPys, Option.bind_eq_some_iff, Option.map_eq_some_iff] at hd
    obtain ⟨d, _, ds', _, rfl⟩ := hd
    simp [PyData.eqv, PyData.eqvAll]
theorem lawread_ok {lf : Nat} (hA : AOk A (k + 1)) (I : Inv T s κ γ σ) (hlim : s.heap.NoLimit) {f c' cl : Addr} {oc ocl : Obj} {qual : Str} {doc pm ctv : Value}
    (hf : s.heap.get? f = some (W.fnMade "_law_read" qual (argsOf (readOf pw si)) (bodyOf (readOf pw si)) (scopeOf (readOf pw si)) [("left", cl)] doc pm c' ctv)) (hc : s.heap.get? c' = some oc) (hcd : ∃ vs t, oc.data = .fields vs ∧ vs[1]? = some (.str qual t))
    (hcl : s.heap.get? cl = some ocl) (hcld : ocl.data = .cell (some (.ref (γ lf)))) (hlf : lf < σ.nx) {t : Tok} {z : AV} (e : left? lf σ = some (z, σ')) :
    wpAny (model T.prog T.w) A (call (.ref f) [.int 1 t]) (EvP T s κ γ σ.nx z σ') NoE s := by
  refine wpAny_call (codeAny_call_def (binds := [("size", .int 1 t)]) (by have := hA.depth; omega) hf rfl hlim (let ⟨vs, t, h1, h2⟩ := hcd; ⟨c', oc, vs, t, rfl, hc, h1, h2⟩) rfl (.of_eq (by kernel_rfl)) (show ∀ x ∈ (scopeOf (readOf pw si)).names, x.2 ≠ .cell by decide) (fun x hx => ?_) (fun h₁ hns hk => ?_) (by kernel_rfl) (by kernel_rfl) (by kernel_rfl))
  · rw [List.mem_singleton.mp hx]; kernel_rfl
  generalize hN : s.heap.objs.size = N at *
  generalize hE : callEnv (W.fnX "_law_read" qual (argsOf (readOf pw si)) (bodyOf (readOf pw si)) (scopeOf (readOf pw si)) [("left", cl)] Value.none Value.none doc pm none (Value.ref c') ctv) N f = env
  have ek : env.scope.kind = .function := by rw [← hE]; kernel_rfl
  have ekd : ∀ y, env.kindOf y = (scopeOf (readOf pw si)).names.lookup y := fun y => by rw [← hE]; rfl
  have eloc : env.locals = N := by rw [← hE]; rfl
  have ecel : env.cells = [(Str.ofString "left", cl)] := by rw [← hE]; rfl
  have hB := hA.deeper env
  refine wpAny_mono (E := NoE) (Q := fun fl s' => EvP T s κ γ σ.nx z σ' (match fl with | .ret v => v | _ => .none) s') ?_ (fun fl s' q => q) fun _ _ z => z.elim
  generalize hBB : A.deeper env = B at *
  let κ1 : Addr → Col := fun b => if (s.heap.get? b).isSome then κ b else .fr N
  have hκ : ∀ b, (s.heap.get? b).isSome → κ1 b = κ b := fun b hb => if_pos hb
  have S1 : Step Pe s κ γ σ.nx { s with heap := h₁, toks := s.toks + 1 + 1 } κ1 γ σ.nx := .keeps hk hκ
  have I1 : Inv T { s with heap := h₁, toks := s.toks + 1 + 1 } κ1 γ σ := I.keeps hk hκ
  have hcell : h₁.IsCell cl (some (.ref (γ lf))) := ⟨ocl, hk _ _ hcl, hcld⟩
  refine wpAny_execs_cons (wpAny_Return_some (wpAny_IfExp (wpAny_isTrue_BoolOp ?_)))
  rw [arm_allTrue_cons]
  refine wpAny_bind (wpAny_isTrue_Compare1 (wpAny_Name (wpAny_loadName_local ek ((ekd _).trans (by kernel_rfl)) (eloc ▸ hns) (v := .int 1 t) (by kernel_rfl) (wpAny_Constant_int (PyProof.Rows.eq_int (wpAny_truthy_bool ?_)))) (by decide)) rfl)
  simp only [beq_self_eq_true]
  rw [arm_allTrue_cons]
  have hsome : ∃ xs, σ.get lf = some (.list xs) ∧ (toPys 7 xs).isSome := by
    unfold left? at e
    split at e
    · rename_i h; exact ⟨_, h, rfl⟩
    · rename_i h
      split at e
      · rename_i h2; exact ⟨_, h, h2⟩
      · cases e
    · cases e
  obtain ⟨xs, hxs, hpy⟩ := hsome
  have hl1 : κ1 cl = κ cl := hκ cl (by rw [hcl]; rfl)
  refine wpAny_bind (wpAny_isTrue_Compare1 (wpAny_Name (wpAny_loadName_free ek ((ekd _).trans (by kernel_rfl)) (by rw [ecel]; kernel_rfl) hcell (wpAny_List (wpAny_items_nil ⟨by decide, ?_⟩))) (by decide)) rfl)
  have S2 : Step Pe { s with heap := h₁, toks := s.toks + 1 + 1 } κ1 γ σ.nx { s with heap := h₁.push (lobj [] 0), toks := s.toks + 1 + 1 } (upc κ1 h₁.objs.size .fz) γ σ.nx := .push (s := { s with heap := h₁, toks := s.toks + 1 + 1 }) _ .fz
  have I2 : Inv T { s with heap := h₁.push (lobj [] 0), toks := s.toks + 1 + 1 } (upc κ1 h₁.objs.size .fz) γ σ := I1.push (s := { s with heap := h₁, toks := s.toks + 1 + 1 }) _ .fz
  refine wpAny_mono (ne_cmp (Q := fun v s' => v = .bool (!xs.isEmpty) ∧ s' = { s with heap := h₁.push (lobj [] 0), toks := s.toks + 1 + 1 }) hB I2 (eq_nil hxs hpy) ⟨rfl, hlf⟩ (Rep.newList (s := { s with heap := h₁, toks := s.toks + 1 + 1 }) (vs := []) (ep := 0) RepL.nil (by simp)) ⟨rfl, rfl⟩) (fun v s' q => ?_) fun _ _ z => z
  obtain ⟨rfl, rfl⟩ := q
  refine wpAny_truthy_bool ?_
  have hcell2 : (h₁.push (lobj [] 0)).IsCell cl (some (.ref (γ lf))) := hcell.keeps (push_keeps _ _)
  cases xs with
  | nil =>
    have e' : z = .str ⟨#[]⟩ ∧ σ' = σ := by
      unfold left? at e
      rw [hxs] at e
      simp only [Option.some.injEq, Prod.mk.injEq] at e
      exact ⟨e.1.symm, e.2.symm⟩
    obtain ⟨rfl, rfl⟩ := e'
    refine wpAny_pure (wpAny_Constant_str ?_)
    exact EvP.then (S1.te S2) ⟨_, _, .toks, I2.toks, _, rfl⟩
  | cons x xs =>
    have e' : z = x ∧ σ' = σ.upd lf (.list xs) := by
      unfold left? at e
      rw [hxs] at e
      simp only [hpy, if_true, Option.some.injEq, Prod.mk.injEq] at e
      exact ⟨e.1.symm, e.2.symm⟩
    obtain ⟨rfl, rfl⟩ := e'
    show wpAny _ _ (allTrue .And [] env) _ _ _
    rw [arm_allTrue_nil]
    refine wpAny_pure ?_
    show wpAny _ _ (eval _ env) _ _ _
    obtain ⟨hn, vs, ep, hcc, hg, hb, q⟩ := I2.objs _ _ hxs
    refine call_attr rfl rfl (by decide) rfl (wpAny_Name (wpAny_loadName_free ek ((ekd _).trans (by kernel_rfl)) (by rw [ecel]; kernel_rfl) hcell2 fun pl => ?_) (by decide))
    refine PyProof.Rows.getMethod_list_of PySem.F.slot_list_pop PySem.F.type_list_pop (lobj_list hg) ⟨_, hg, rfl⟩ ?_
    refine Calls.callWith_builtin rfl (Calls.evalArgs_plain (Calls.spliced_cons ?_))
    refine wpAny_Constant_int (k := 0) (pos := ⟨0, 0, 0, 0⟩) (Calls.spliced_nil ?_)
    refine wpAny_mono (pop_ok (A := B) I2.toks hxs) (fun v s₃ q => ?_) fun _ _ z => z
    exact EvP.then (S1.te (S2.te .toks)) q
end
end Mine
set_option maxRecDepth 100000
namespace Mine
open PySem PyProof.Rows
section
variable {T : Tp} {c : Cfg} {Φ : Fns} {k : Nat} {A : Around} {s s' : Shared} {κ κ' : Addr → Col} {γ γ' : Nat → Addr} {σ σ' : Sto} {n : Nat}
theorem lex_setline {N : Addr} {mN : Str → Option Value} (X : LexTop T N mN) (I : Inv T s κ γ σ) {l : Nat} {ln ln' : Int} {lf : Nat} {push : List AV} {t' : Tok} (hg : σ.get l = some (.lexer ln lf push)) :
    wpAny (model T.prog T.w) A (setAttr (.ref (γ l)) "lineno" (.int ln' t')) (fun _ s' => Step Pe s κ γ σ.nx s' κ γ σ.nx ∧ Inv T s' κ γ (σ.upd l (.lexer ln' lf push))) NoE s := by
  have hn := (I.objs _ _ hg).1
  obtain ⟨d, pb, vs, ep, sv, t, u, mA, hi, hN1, hd, ⟨ox, hox, hod⟩, c1, c2, c3, a5, a6, m1, m2, rs, m3, m4, m5, hpb, hb, rp⟩ := lex_inst I hg
  obtain ⟨hh, g, dr, tk, os⟩ := s
  have hk : ∀ b o, T.h₀.get? b = some o → hh.get? b = some o := fun b o e => (I.base b o e).1
  obtain ⟨nm', q, bs, sn, sub, col, dd, k0, k1, k2, k3, k5, hC⟩ := (X.cls.keeps hk).obj
  have hxC : γ l ≠ T.C := by
    intro q
    obtain ⟨nm', q', bs, sn, sub, col, dd, k0, k1, k2, k3, k5, hC0⟩ := X.cls.obj
    have := (I.base _ _ hC0).2
    rw [← q, c1] at this; cases this
  refine store_attr (ns := lexNames) PySem.F.store_object hC (X.cls.keeps hk).ns (X.no _ (by simp)) (X.no _ (by simp)) (no_obj _ (by simp)) hxC hi (fun h' tk' I' hkk hsame => ?_) (fun y hy => Decidable.byContradiction fun q => hy (m5 y q)) (by decide)
  have kk : ∀ b o, b ≠ γ l → b ≠ d → hh.get? b = some o → h'.get? b = some o := fun b o h1 h2 e => hkk b o h1 (fun o₀ d' e₀ ed => by
    rw [hox] at e₀; injection e₀ with e₀; subst e₀; rw [hod] at ed; injection ed with ed; subst ed; exact h2) e
  obtain ⟨o1, e1, ec, edt, _, dk⟩ := hsame ox hox
  obtain ⟨o2, q1, q2, q3, q4⟩ := I'
  rw [e1] at q1; injection q1 with q1; subst q1
  rcases q4 with ⟨hn0, _⟩ | ⟨d', hd', hne', hns'⟩
  · rw [dk _ hod] at hn0; cases hn0
  obtain rfl := Option.some.inj ((dk _ hod).symm.trans hd')
  have hk2 : ∀ a o, κ a ≠ .ob l → hh.get? a = some o → h'.get? a = some o := fun a o hne e => kk a o (by rintro rfl; exact hne c1) (by rintro rfl; exact hne c2) e
  refine ⟨.upd (s := ⟨hh, g, dr, tk, os⟩) hk2 fun a e => ?_, I.upd (s := ⟨hh, g, dr, tk, os⟩) hn hk2 ⟨o1, d, pb, vs, ep, sv, t', u, _, e1, q2, q3, dk _ hod, hd, hns', c1, c2, c3, a5, a6, ?_, ?_, rs.lasts (.upd hk2), ?_, ?_, fun y hy => ?_, kk _ _ a6 a5 hpb, hb, rp.lasts (.upd hk2)⟩⟩
  · by_cases ha : a = γ l
    · subst ha; show (h'.get? _).isSome; rw [e1]; rfl
    · by_cases hb : a = d
      · subst hb; obtain ⟨o, _, _, e, _⟩ := hns'; show (h'.get? _).isSome; rw [e]; rfl
      · obtain ⟨o, ho⟩ := Option.isSome_iff_exists.mp e; show (h'.get? _).isSome; rw [kk a o ha hb ho]; rfl
  · rw [if_pos rfl]
  · rw [if_neg (by decide)]; exact m2
  · rw [if_neg (by decide)]; exact m3
  · rw [if_neg (by decide)]; exact m4
  · rw [if_neg (by rintro rfl; exact hy (by simp [lexNames]))]; exact m5 y hy
theorem upd_same {l : Nat} {o : AObj} (h : σ.get l = some o) : σ.upd l o = σ := by
  cases σ with
  | mk g n =>
    simp only [Sto.upd, Sto.mk.injEq, and_true]
    funext k
    split
    · rename_i q; subst q; exact h.symm
    · rfl
theorem read_code {N : Addr} {mN : Str → Option Value} (X : LexTop T N mN) (O : TopOk T c) (hSO : T.StreamObjs = StreamIs pw si) {a : Addr} {fd : FuncData} (D : FdAt T.h₀ a fd (bodyOf (methAt pw ci 1)) ["self"]) (hclo : fd.closure = []) (hsc : fd.scope = scopeOf (methAt pw ci 1)) (hu : T.fnV "_read_char" = some (.ref a))
    {args : List AV} {z : AV} {u : Value} {vs : List Value} (e : primRead args σ = some (z, σ')) (hA : AOk A (k + 2)) (I : Inv T s κ γ σ) (hu' : T.fnV "_read_char" = some u) (r : RepL T s.heap κ γ σ.nx args vs) : codeAny (model T.prog T.w) A (.call u ⟨vs, []⟩) (CallR (EvP T s κ γ σ.nx z σ')) s := by
  rw [hu] at hu'
  injection hu' with hu'
  subst hu'
  have hk0 : ∀ b o, T.h₀.get? b = some o → s.heap.get? b = some o := fun b o e => (I.base b o e).1
  -- what is read
  obtain ⟨l, ln, lf, ts, x, σ1, rfl, hg, hx, rfl, hσ, hg1⟩ : ∃ l ln lf ts x σ1, args = [.loc l] ∧ σ.get l = some (.lexer ln lf ts) ∧ left? lf σ = some (.str x, σ1) ∧ z = .str x ∧ σ' = σ1.upd l (.lexer (if x = ⟨#[10]⟩ then ln + 1 else ln) lf ts) ∧ σ1.get l = some (.lexer ln lf ts) := by
    unfold primRead at e
    split at e
    · rename_i l
      split at e
      · rename_i ln lf ts hg
        split at e
        · rename_i h0
          simp only [Option.some.injEq, Prod.mk.injEq] at e
          obtain ⟨rfl, rfl⟩ := e
          exact ⟨l, ln, lf, ts, ⟨#[]⟩, σ, rfl, hg, by simp [left?, h0], rfl, by rw [if_neg (by decide), upd_same hg], hg⟩
        · rename_i x xs h0
          split at e
          · rename_i hpy
            simp only [Option.some.injEq, Prod.mk.injEq] at e
            obtain ⟨rfl, rfl⟩ := e
            refine ⟨l, ln, lf, ts, x, _, rfl, hg, by simp only [left?, h0, hpy, if_true], rfl, rfl, ?_⟩
            rw [Sto.upd_get, if_neg (by rintro rfl; rw [hg] at h0; cases h0)]
            exact hg
          · cases e
        · cases e
      · cases e
    · cases e
  obtain ⟨v1, us, rfl, r1, hus⟩ := r
  rw [show us = [] from hus]
  refine fd_code (k := k + 1) (D.keeps hk0) hclo (by rw [hsc]; decide) hA I (O.nolimit.keeps hk0) rfl (args := [.loc l]) ⟨_, _, rfl, r1, rfl⟩ fun env h₁ tk κ₁ hes hA1 F1 I1 S1 hown => ?_
  rw [hsc] at F1
  obtain ⟨d, pb, ws, ep, sv, tl, tw, mA, hi, hN1, hd, ho, c1, c2, c3, a5, a6, m1, m2, rs, m3, m4, m5, hpb, hb, rp⟩ := lex_inst I1 hg
  obtain ⟨a', objs, rfl, hob, hst, hlf⟩ := rs
  rw [hSO] at hst
  obtain ⟨d', f', c', cl, ob, od, oc, ocl, qual, doc, pm, ctv, rfl, b1, b2, b3, b4, ⟨es, epd, b5, b6, b7⟩, b8, b9⟩ := hst
  have o1 := hob _ (List.mem_cons_self)
  have o2 := hob _ (List.mem_cons_of_mem _ List.mem_cons_self)
  have o3 := hob _ (List.mem_cons_of_mem _ (List.mem_cons_of_mem _ List.mem_cons_self))
  have o4 := hob _ (List.mem_cons_of_mem _ (List.mem_cons_of_mem _ (List.mem_cons_of_mem _ List.mem_cons_self)))
  have o5 := hob _ (List.mem_cons_of_mem _ (List.mem_cons_of_mem _ (List.mem_cons_of_mem _ (List.mem_cons_of_mem _ List.mem_cons_self))))
  have FO : FnObj h₁ a' d' (fun y => if y = "read" then some (.ref f') else none) := ⟨⟨ob, o1.2, b1, b2, b3⟩, b4, ⟨od, es, epd, o2.2, b5, b6, b7⟩⟩
  refine wpAny_execs_cons (wpAny_Assign_Name (call_attr rfl rfl (by decide) rfl (attr_self X O I1 F1 (l := l) (by kernel_rfl) hi (by simp [lexNames]) m2 rfl fun pl => fn_method FO (by simp; rfl) ?_)) rfl)
  refine Calls.callWith_function (o := W.fnMade "_law_read" qual (argsOf (readOf pw si)) (bodyOf (readOf pw si)) (scopeOf (readOf pw si)) [("left", cl)] doc pm c' ctv) (fd := W.fnX "_law_read" qual (argsOf (readOf pw si)) (bodyOf (readOf pw si)) (scopeOf (readOf pw si)) [("left", cl)] .none .none doc pm none (.ref c') ctv) (Calls.evalArgs_plain (Calls.spliced_cons ?_))
  refine wpAny_Constant_int (k := 0) (pos := ⟨0, 0, 0, 0⟩) (Calls.spliced_nil ⟨⟨o3.2, rfl⟩, ?_⟩)
  refine wpAny_mono (lawread_ok (k := k) (s := { s with heap := h₁, toks := tk + 1 + 1 + 1 }) (lf := lf) hA1 I1.toks (O.nolimit.keeps fun b o e => (I1.base b o e).1) o3.2 o4.2 b8 o5.2 b9 hlf hx) (fun v s₂ q => ?_) fun _ _ z => z
  obtain ⟨κ2, γ2, S2, I2, R2⟩ := q
  have S02 := (S1.te .toks).te S2
  have F2 := FrOk.step (s := { s with heap := h₁, toks := tk + 1 + 1 + 1 }) F1 S2
  refine bind_ok I2 F2 (x := "ch") (.inl (by kernel_rfl)) R2 fun s₃ S3 I3 F3 => ?_
  have R3 := R2.steps S3
  obtain ⟨t2, rfl⟩ := R2
  have lookch : ∀ {m : Fm}, look c (scopeOf (methAt pw ci 1)) (m.set "ch" (.str x)) "ch" = some (.str x) := by intro m; kernel_rfl
  have S03 : Step (Ps (Owns env (scopeOf (methAt pw ci 1)))) s κ γ σ.nx s₃ κ2 γ2 σ1.nx := S02.ps.ts S3
  have hown' : ∀ b, Owns env (scopeOf (methAt pw ci 1)) b → s.heap.get? b = none := by rw [← hsc]; exact hown
  -- the end: the sign is handed back
  have fin : ∀ (s₄ : Shared) (σ4 : Sto), Step (Ps (Owns env (scopeOf (methAt pw ci 1)))) s κ γ σ.nx s₄ κ2 γ2 σ4.nx → Inv T s₄ κ2 γ2 σ4 → FrOk T env (scopeOf (methAt pw ci 1)) (Fm.set (fun x => ((["self"] : List Str).zip [AV.loc l]).lookup x) "ch" (.str x)) s₄.heap κ2 γ2 σ4.nx → σ4 = σ' →
      ∀ p p', wpAny (model T.prog T.w) (A.deeper env) (execs [.Return (some (.Name "ch" p)) p'] env) (fun fl s' => EvP T s κ γ σ.nx (.str x) σ' (match fl with | .ret v => v | _ => .none) s') NoE s₄ := by
    rintro s₄ σ4 S4 I4 F4 rfl p p'
    exact wpAny_execs_cons (wpAny_Return_some (look_ok' O I4 F4 lookch fun w rw' => ⟨κ2, γ2, S4.pe hown', I4, rw'⟩))
  refine wpAny_execs_cons (wpAny_If (wpAny_isTrue_Compare1 (look_ok' O I3 F3 lookch fun w rw' => ?_) rfl))
  obtain ⟨t3, rfl⟩ := rw'
  refine wpAny_Constant_str (PyProof.Rows.eq_str (wpAny_truthy_bool ?_))
  have I3' := I3.toks (tk := s₃.toks + 1)
  have F3' := F3.step (.toks (s := s₃) (κ := κ2) (γ := γ2) (n := σ1.nx) (tk := s₃.toks + 1))
  have S03' := S03.ts (.toks (tk := s₃.toks + 1))
  by_cases hx10 : x = ⟨#[10]⟩
  · have hb : (x == (Str.ofString "\n")) = true := by rw [hx10]; decide
    rw [hb, if_pos rfl]
    rw [if_pos hx10] at hσ
    refine wpAny_execs_cons (wpAny_AugAssign_AttributeAny (look_ok' O I3' F3' (v := .loc l) (by kernel_rfl) fun w rw' => ?_))
    obtain ⟨rfl, _⟩ := rw'
    refine lex_attr X I3' (x := .int ln) (by simp [attrA, hg1]) fun w tk4 rw' => ?_
    obtain ⟨t4, rfl⟩ := rw'
    refine wpAny_Constant_int (PyProof.Rows.iadd_int ?_)
    refine wpAny_mono (lex_setline X (s := { s₃ with toks := tk4 + 1 + 1 }) (I3.toks (tk := tk4 + 1 + 1)) hg1) (fun _ s₄ q => ?_) fun _ _ z => z
    obtain ⟨S4, I4⟩ := q
    have S04 := (S03.ts (.toks (tk := tk4 + 1 + 1))).ts S4.ps
    exact wpAny_execs_nil (fin _ (σ1.upd l (.lexer (ln + 1) lf ts)) S04 I4 (FrOk.step (s := { s₃ with toks := tk4 + 1 + 1 }) F3 S4) hσ.symm _ _)
  · have hb : (x == (Str.ofString "\n")) = false := by
      rw [beq_eq_false_iff_ne]
      intro q
      exact hx10 (q.trans (by decide))
    rw [hb, if_neg (by decide)]
    rw [if_neg hx10, upd_same hg1] at hσ
    exact wpAny_execs_nil (fin _ σ1 S03' I3' F3' hσ.symm _ _)
end
end Mine
set_option maxRecDepth 100000
namespace Mine
open PySem PyProof.Rows
def chars (cs : List Nat) : List AV := cs.map fun c => .str ⟨#[c]⟩
/-- the lexer stands with this line, this text left -/
def lexAt (σ : Sto) (l lf : Nat) (ln : Int) (cs : List Nat) : Sto := (σ.upd lf (.list (chars cs))).upd l (.lexer ln lf [])
theorem lexAt_get {σ : Sto} {l lf : Nat} {ln : Int} {cs : List Nat} : (lexAt σ l lf ln cs).get l = some (.lexer ln lf []) := by simp [lexAt, Sto.upd]
theorem lexAt_left {σ : Sto} {l lf : Nat} {ln : Int} {cs : List Nat} (h : lf ≠ l) : (lexAt σ l lf ln cs).get lf = some (.list (chars cs)) := by simp [lexAt, Sto.upd, h]
theorem chars_py : ∀ {cs : List Nat}, (∀ c ∈ cs, c < 0x110000) → (toPys 7 (chars cs)).isSome
  | [], _ => rfl
  | c :: cs, h => by
    have hc := h c List.mem_cons_self
    obtain ⟨ds, hd⟩ := Option.isSome_iff_exists.mp (chars_py fun c hc => h c (List.mem_cons_of_mem _ hc))
    have : PyData.strOk ⟨#[c]⟩ = true := by simp [PyData.strOk, hc]
    show (toPys 7 (AV.str ⟨#[c]⟩ :: chars cs)).isSome = true
    simp only [toPys, toPy, this, if_true, Option.bind_some, hd, Option.map_some, Option.isSome_some]
theorem primRead_cons {σ : Sto} {l lf : Nat} {ln : Int} {c : Nat} {cs : List Nat} (h : lf ≠ l) (hc : ∀ x ∈ c :: cs, x < 0x110000) :
    primRead [.loc l] (lexAt σ l lf ln (c :: cs)) = some (.str ⟨#[c]⟩, lexAt σ l lf (if c = 10 then ln + 1 else ln) cs) := by
  have hp : (toPys 7 (AV.str ⟨#[c]⟩ :: chars cs)).isSome = true := chars_py hc
  simp only [primRead, lexAt_get, lexAt_left h]
  show (if (toPys 7 (AV.str ⟨#[c]⟩ :: chars cs)).isSome = true then some (AV.str ⟨#[c]⟩, ((lexAt σ l lf ln (c :: cs)).upd lf (.list (chars cs))).upd l (.lexer (if (⟨#[c]⟩ : Str) = ⟨#[10]⟩ then ln + 1 else ln) lf [])) else none) = _
  simp only [hp, if_true, Option.some.injEq, Prod.mk.injEq, true_and]
  have hc10 : ((⟨#[c]⟩ : Str) = ⟨#[10]⟩) ↔ c = 10 := by simp
  simp only [hc10]
  unfold lexAt Sto.upd
  simp only [Sto.mk.injEq, and_true]
  funext k
  by_cases h1 : k = l
  · simp [h1]
  · by_cases h2 : k = lf
    · simp [h2, h]
    · simp [h1, h2]
theorem primRead_nil {σ : Sto} {l lf : Nat} {ln : Int} (h : lf ≠ l) : primRead [.loc l] (lexAt σ l lf ln []) = some (.str ⟨#[]⟩, lexAt σ l lf ln []) := by
  simp only [primRead, lexAt_get, lexAt_left h]
  rfl
abbrev sc2 : Scope := scopeOf (methAt pw ci 2)
/-- what stands within get_token -/
structure GSt (T : Tp) (env : Env) (s₀ : Shared) (κ₀ : Addr → Col) (γ₀ : Nat → Addr) (σ₀ : Sto) (l lf : Nat) (it bm f : Addr) (tt : Tok) (ln : Int) (cs tok : List Nat) (chv : Option Str) (live : Bool) (s : Shared) (κ : Addr → Col) (γ : Nat → Addr) (m : Fm) : Prop where
  step : Step (Ps (Owns env sc2)) s₀ κ₀ γ₀ σ₀.nx s κ γ σ₀.nx
  inv : Inv T s κ γ (lexAt σ₀ l lf ln cs)
  fr : FrOk T env sc2 m s.heap κ γ σ₀.nx
  self : m "self" = some (.loc l)
  token : m "token" = some (.str ⟨tok.toArray⟩)
  fiter : m "fiter" = some (.opq it)
  ch : ∀ y, chv = some y → m "ch" = some (.str y)
  cit : κ it = .tmp
  cbm : κ bm = .tmp
  oit : s.heap.get? it = some (if live then citObj (.ref bm) tt else citEnd)
  obm : s.heap.get? bm = some (W.methodObj (.ref f) (.ref (γ₀ l)))
  lt : ∀ x ∈ cs, x < 0x110000
  ne : lf ≠ l
  ln : l < σ₀.nx
  nit : s₀.heap.get? it = none
  bmit : bm ≠ it
section
variable {T : Tp} {c : Cfg} {Φ : Fns} {k : Nat} {A : Around} {env : Env} {s₀ s s' : Shared} {κ₀ κ κ' : Addr → Col} {γ₀ γ γ' : Nat → Addr} {σ₀ σ σ' : Sto} {m : Fm} {l lf : Nat} {it bm f : Addr} {tt : Tok} {ln : Int} {cs tok : List Nat} {chv : Option Str} {live : Bool}
theorem look_self {m : Fm} : look c sc2 m "self" = m "self" := by kernel_rfl
theorem look_token {m : Fm} : look c sc2 m "token" = m "token" := by kernel_rfl
theorem look_fiter {m : Fm} : look c sc2 m "fiter" = m "fiter" := by kernel_rfl
theorem look_ch {m : Fm} : look c sc2 m "ch" = m "ch" := by kernel_rfl
theorem GSt.gl (G : GSt T env s₀ κ₀ γ₀ σ₀ l lf it bm f tt ln cs tok chv live s κ γ m) : γ l = γ₀ l := G.step.gam l G.ln
/-- the tokens go on -/
theorem GSt.toks (G : GSt T env s₀ κ₀ γ₀ σ₀ l lf it bm f tt ln cs tok chv live s κ γ m) {tk : Nat} : GSt T env s₀ κ₀ γ₀ σ₀ l lf it bm f tt ln cs tok chv live { s with toks := tk } κ γ m :=
  { G with step := G.step.ts .toks, inv := G.inv.toks, fr := G.fr.step (s' := { s with toks := tk }) .toks }
/-- a step of an expression -/
theorem GSt.exp {ln' : Int} {cs' : List Nat} (G : GSt T env s₀ κ₀ γ₀ σ₀ l lf it bm f tt ln cs tok chv live s κ γ m) (S : Step Pe s κ γ σ₀.nx s' κ' γ' σ₀.nx) (I : Inv T s' κ' γ' (lexAt σ₀ l lf ln' cs')) (h : ∀ x ∈ cs', x < 0x110000) :
    GSt T env s₀ κ₀ γ₀ σ₀ l lf it bm f tt ln' cs' tok chv live s' κ' γ' m where
  step := G.step.ts S.ps
  inv := I
  fr := G.fr.step S
  self := G.self
  token := G.token
  fiter := G.fiter
  ch := G.ch
  cit := by rw [S.col it (by rw [G.oit]; rfl) (by rw [G.cit]; rfl), G.cit]
  cbm := by rw [S.col bm (by rw [G.obm]; rfl) (by rw [G.cbm]; rfl), G.cbm]
  oit := S.keep it _ G.oit (by rw [G.cit]; exact pe_tmp)
  obm := S.keep bm _ G.obm (by rw [G.cbm]; exact pe_tmp)
  lt := h
  ne := G.ne
  ln := G.ln
  nit := G.nit
  bmit := G.bmit
theorem GSt.bind {x : Str} {v : AV} (G : GSt T env s₀ κ₀ γ₀ σ₀ l lf it bm f tt ln cs tok chv live s κ γ m) {tok' : List Nat} {chv' : Option Str} (S : Step (Ps (Owns env sc2)) s κ γ σ₀.nx s' κ γ σ₀.nx) (I : Inv T s' κ γ (lexAt σ₀ l lf ln cs)) (F : FrOk T env sc2 (m.set x v) s'.heap κ γ σ₀.nx)
    (h1 : (m.set x v) "self" = some (.loc l)) (h2 : (m.set x v) "token" = some (.str ⟨tok'.toArray⟩)) (h3 : (m.set x v) "fiter" = some (.opq it)) (h4 : ∀ y, chv' = some y → (m.set x v) "ch" = some (.str y)) :
    GSt T env s₀ κ₀ γ₀ σ₀ l lf it bm f tt ln cs tok' chv' live s' κ γ (m.set x v) := by
  have hw : ∀ b, κ b = .tmp → ¬ Owns env sc2 b := fun b hb x => by obtain ⟨L, q⟩ := Owns.col G.fr x; rw [hb] at q; cases q
  exact { step := G.step.ts S, inv := I, fr := F, self := h1, token := h2, fiter := h3, ch := h4, cit := G.cit, cbm := G.cbm, oit := S.keep it _ G.oit (by rw [G.cit]; exact ps_tmp (hw it G.cit)), obm := S.keep bm _ G.obm (by rw [G.cbm]; exact ps_tmp (hw bm G.cbm)), lt := G.lt, ne := G.ne, ln := G.ln, nit := G.nit, bmit := G.bmit }
theorem g_lookch (O : TopOk T c) {y : Str} (G : GSt T env s₀ κ₀ γ₀ σ₀ l lf it bm f tt ln cs tok (some y) live s κ γ m) {p : Pos} {Q : Value → Shared → Prop} (h : ∀ t, Q (.str y t) s) : wpAny (model T.prog T.w) A (eval (.Name "ch" p) env) Q NoE s :=
  look_ok' O G.inv G.fr (look_ch.trans (G.ch y rfl)) fun u r => by obtain ⟨t, rfl⟩ := r; exact h t
/-- a test against a sign -/
theorem g_eq (O : TopOk T c) {y : Str} (G : GSt T env s₀ κ₀ γ₀ σ₀ l lf it bm f tt ln cs tok (some y) live s κ γ m) {p p' p'' : Pos} {k' : Nat} {z : Str} {w : Sem Value} {Q : Bool → Shared → Prop} (h : ∀ s', GSt T env s₀ κ₀ γ₀ σ₀ l lf it bm f tt ln cs tok (some y) live s' κ γ m → Q (y == z) s') :
    wpAny (model T.prog T.w) A (isTrue (.Compare (.Name "ch" p) [.Eq] [.Constant (.str z) k' p'] p'') env w) Q NoE s :=
  wpAny_isTrue_Compare1 (g_lookch O G fun t => wpAny_Constant_str (PyProof.Rows.eq_str (wpAny_truthy_bool (h _ G.toks)))) rfl
/-- the test for a blank -/
theorem g_in {N : Addr} {mN : Str → Option Value} (X : LexTop T N mN) (O : TopOk T c) {ch : Nat} (G : GSt T env s₀ κ₀ γ₀ σ₀ l lf it bm f tt ln cs tok (some ⟨#[ch]⟩) live s κ γ m) {p p' p'' p3 : Pos} {w : Sem Value} {Q : Bool → Shared → Prop} (h : ∀ s', GSt T env s₀ κ₀ γ₀ σ₀ l lf it bm f tt ln cs tok (some ⟨#[ch]⟩) live s' κ γ m → Q (decide (ch = 10 ∨ ch = 9 ∨ ch = 13 ∨ ch = 32)) s') :
    wpAny (model T.prog T.w) A (isTrue (.Compare (.Name "ch" p) [.In] [.Attribute (.Name "self" p') "whitespace" p''] p3) env w) Q NoE s := by
  refine wpAny_isTrue_Compare1 (g_lookch O G fun t => ?_) rfl
  obtain ⟨d, pb, vs, ep, sv, tl, tw, mA, hi, _, _, _, _, _, _, _, _, _, _, _, m3, _⟩ := lex_inst G.inv lexAt_get
  refine attr_self X O G.inv G.fr (look_self.trans G.self) hi (by simp [lexNames]) m3 rfl (P.in_str (wpAny_truthy_bool ?_))
  have e : subStr ⟨#[ch]⟩ blanks = some (decide (ch = 10 ∨ ch = 9 ∨ ch = 13 ∨ ch = 32)) := by
    simp only [subStr, blanks, List.contains_cons, List.contains_nil, Bool.or_false, Option.some.injEq]
    by_cases h1 : ch = 10 <;> by_cases h2 : ch = 9 <;> by_cases h3 : ch = 13 <;> by_cases h4 : ch = 32 <;> simp [h1, h2, h3, h4]
  rw [subStr_one e]
  exact h _ G.toks
theorem g_token (O : TopOk T c) (G : GSt T env s₀ κ₀ γ₀ σ₀ l lf it bm f tt ln cs tok chv live s κ γ m) {p p' : Pos} {Q : Flow → Shared → Prop} (h : ∀ t, Q (.ret (.str ⟨tok.toArray⟩ t)) s) : wpAny (model T.prog T.w) A (exec (.Return (some (.Name "token" p)) p') env) Q NoE s :=
  wpAny_Return_some (look_ok' O G.inv G.fr (look_token.trans G.token) fun u r => by obtain ⟨t, rfl⟩ := r; exact h t)
/-- token += ch -/
theorem g_add (O : TopOk T c) {y : List Nat} (G : GSt T env s₀ κ₀ γ₀ σ₀ l lf it bm f tt ln cs tok (some ⟨y.toArray⟩) live s κ γ m) (hb : tok.length + y.length ≤ 2 ^ 20) {p p' p'' : Pos} {Q : Flow → Shared → Prop}
    (h : ∀ s' m', GSt T env s₀ κ₀ γ₀ σ₀ l lf it bm f tt ln cs (tok ++ y) none live s' κ γ m' → Q .next s') : wpAny (model T.prog T.w) A (exec (Stmt.AugAssign (Expr.Name "token" p) Operator.Add (Expr.Name "ch" p') p'') env) Q NoE s := by
  refine wpAny_AugAssign_Name ?_
  have hsz : (⟨tok.toArray⟩ : Str).length + (⟨y.toArray⟩ : Str).length ≤ sizeLine := by
    show tok.toArray.size + y.toArray.size ≤ 16777216
    simp only [List.size_toArray]
    omega
  have z := look_ok (A := A) O G.inv G.fr (look_token.trans G.token) (Q := fun u s₁ => wpAny (model T.prog T.w) A (eval (.Name "ch" p') env) (fun v s₂ => wpAny (model T.prog T.w) A (inplaceOp .Add u v) (fun r s₃ => wpAny (model T.prog T.w) A (storeName env "token" r) (fun _ => Q .next) NoE s₃) NoE s₂) NoE s₁) fun u r => by
    obtain ⟨t, rfl⟩ := r
    refine g_lookch O G fun t' => PyProof.Rows.iadd_str (fun t2 tk => ?_) hsz
    have G' := G.toks (tk := tk)
    refine bind_ok G'.inv G'.fr (x := "token") (v := .str ((⟨tok.toArray⟩ : Str) ++ (⟨y.toArray⟩ : Str))) (.inl (by kernel_rfl)) ⟨t2, rfl⟩ fun s' S I F => h s' _ (G'.bind (chv' := none) S I F ?_ ?_ ?_ fun y hy => by cases hy)
    · rw [Fm.set, if_neg (by decide)]; exact G.self
    · rw [Fm.set, if_pos rfl]
      have : (⟨tok.toArray⟩ ++ ⟨y.toArray⟩ : Str) = ⟨(tok ++ y).toArray⟩ := by
        show (⟨tok.toArray ++ y.toArray⟩ : Str) = _
        simp
      rw [this]
    · rw [Fm.set, if_neg (by decide)]; exact G.fiter
  exact z.2
/-- ch takes a sign -/
theorem g_ch (G : GSt T env s₀ κ₀ γ₀ σ₀ l lf it bm f tt ln cs tok chv live s κ γ m) {y : Str} {t : Tok} {Q : Unit → Shared → Prop} (h : ∀ s' m', GSt T env s₀ κ₀ γ₀ σ₀ l lf it bm f tt ln cs tok (some y) live s' κ γ m' → Q () s') :
    wpAny (model T.prog T.w) A (storeName env "ch" (.str y t)) Q NoE s := by
  refine bind_ok G.inv G.fr (x := "ch") (v := .str y) (.inl (by kernel_rfl)) ⟨t, rfl⟩ fun s' S I F => h s' _ (G.bind (chv' := some y) S I F ?_ ?_ ?_ fun z hz => ?_)
  · rw [Fm.set, if_neg (by decide)]; exact G.self
  · rw [Fm.set, if_neg (by decide)]; exact G.token
  · rw [Fm.set, if_neg (by decide)]; exact G.fiter
  · injection hz with hz; subst hz; rw [Fm.set, if_pos rfl]
/-- what reads a sign -/
structure ReadFn (T : Tp) (f : Addr) : Prop where
  v : T.fnV "_read_char" = some (.ref f)
  obj : ∃ o, T.h₀.get? f = some o ∧ ∃ fd, o.data = .func fd
  code : ∀ {A : Around} {s : Shared} {κ : Addr → Col} {γ : Nat → Addr} {σ σ' : Sto} {z : AV} {vs : List Value} {args : List AV}, primRead args σ = some (z, σ') → AOk A 2 → Inv T s κ γ σ → RepL T s.heap κ γ σ.nx args vs →
    codeAny (model T.prog T.w) A (.call (.ref f) ⟨vs, []⟩) (CallR (EvP T s κ γ σ.nx z σ')) s
theorem AOk.in1 {A : Around} {k : Nat} (h : AOk A (k + 1)) : AOk A.in1 k := ⟨h.handled, by have := h.depth; show A.depth + k < _; omega, by have := h.units; show A.units + 1 + 100 * k + 300 < _; omega⟩
def nl (c : Nat) (ln : Int) : Int := if c = 10 then ln + 1 else ln
theorem GSt.ended {h' : Heap} (G : GSt T env s₀ κ₀ γ₀ σ₀ l lf it bm f tt ln cs tok chv live s κ γ m) (hext : Heap.ExtBut it s.heap h') (hend : h'.get? it = some citEnd) : GSt T env s₀ κ₀ γ₀ σ₀ l lf it bm f tt ln cs tok chv false { s with heap := h' } κ γ m := by
  have M : Moved [it] s κ { s with heap := h', toks := s.toks } κ := .ext hext (by simp)
  have hO : Tmps s.heap κ [it] := fun b hb => by rw [List.mem_singleton.mp hb]; exact ⟨G.cit, by rw [G.oit]; rfl⟩
  exact { step := M.step G.step (fun b hb => by rw [List.mem_singleton.mp hb]; exact G.nit), inv := M.inv hO G.inv, fr := M.fr hO G.fr, self := G.self, token := G.token, fiter := G.fiter, ch := G.ch, cit := G.cit, cbm := G.cbm, oit := hend, obm := hext bm _ G.bmit G.obm, lt := G.lt, ne := G.ne, ln := G.ln, nit := G.nit, bmit := G.bmit }
theorem g_next (R : ReadFn T f) (hA : AOk A 3) (G : GSt T env s₀ κ₀ γ₀ σ₀ l lf it bm f tt ln cs tok chv true s κ γ m) :
    wpAny (model T.prog T.w) A (pyNext (.ref it)) (fun r s' => match cs with
      | [] => ∃ κ' γ', r = none ∧ GSt T env s₀ κ₀ γ₀ σ₀ l lf it bm f tt ln [] tok chv false s' κ' γ' m
      | ch :: cs' => ∃ t κ' γ', r = some (.str ⟨#[ch]⟩ t) ∧ GSt T env s₀ κ₀ γ₀ σ₀ l lf it bm f tt (nl ch ln) cs' tok chv true s' κ' γ' m) NoE s := by
  obtain ⟨o, ho, hfd⟩ := R.obj
  have hself : Rep T s.heap κ γ (lexAt σ₀ l lf ln cs).nx (.loc l) (.ref (γ₀ l)) := ⟨by rw [G.gl], G.ln⟩
  have kf : ∀ {s' : Shared} {κ' : Addr → Col} {γ' : Nat → Addr} {σ' : Sto}, Inv T s' κ' γ' σ' → s'.heap.get? f = some o := fun I => (I.base _ _ ho).1
  cases cs with
  | nil =>
    refine pyNext_cit hA.handled G.oit G.obm (kf G.inv) hfd (codeAny_mono (R.code (primRead_nil G.ne) hA.in1 G.inv ⟨_, _, rfl, hself, rfl⟩) fun r s' q => ?_)
    cases r with
    | error e => exact q
    | ok fl =>
      cases fl with
      | ret v =>
        obtain ⟨κ', γ', S, I, t, rfl⟩ := q
        have G' := G.exp S I G.lt
        refine ⟨⟨#[]⟩, t, rfl, G'.oit, G'.obm, kf I, ?_⟩
        rw [if_pos rfl]
        intro h' hext hend
        exact ⟨κ', γ', rfl, G'.ended hext hend⟩
      | _ => exact q
  | cons ch cs =>
    refine pyNext_cit hA.handled G.oit G.obm (kf G.inv) hfd (codeAny_mono (R.code (primRead_cons G.ne G.lt) hA.in1 G.inv ⟨_, _, rfl, hself, rfl⟩) fun r s' q => ?_)
    cases r with
    | error e => exact q
    | ok fl =>
      cases fl with
      | ret v =>
        obtain ⟨κ', γ', S, I, t, rfl⟩ := q
        have G' := G.exp S I (fun x hx => G.lt x (List.mem_cons_of_mem _ hx))
        refine ⟨⟨#[ch]⟩, t, rfl, G'.oit, G'.obm, kf I, ?_⟩
        rw [if_neg (by simp)]
        exact ⟨t, κ', γ', rfl, G'⟩
      | _ => exact q
theorem g_next_end (hA : AOk A 3) (G : GSt T env s₀ κ₀ γ₀ σ₀ l lf it bm f tt ln cs tok chv false s κ γ m) :
    wpAny (model T.prog T.w) A (pyNext (.ref it)) (fun r s' => r = none ∧ GSt T env s₀ κ₀ γ₀ σ₀ l lf it bm f tt ln cs tok chv false s' κ γ m) NoE s :=
  pyNext_end hA.handled G.oit fun h' hext hend => ⟨rfl, G.ended hext hend⟩
/-- a sign is read aside -/
theorem g_read {N : Addr} {mN : Str → Option Value} (X : LexTop T N mN) (O : TopOk T c) (R : ReadFn T f) (hA : AOk A 3) (G : GSt T env s₀ κ₀ γ₀ σ₀ l lf it bm f tt ln cs tok chv live s κ γ m) {p p' p'' : Pos} (hp : p'.endLine = p''.line) {Q : Value → Shared → Prop}
    (h : match cs with
      | [] => ∀ t s' κ' γ', GSt T env s₀ κ₀ γ₀ σ₀ l lf it bm f tt ln [] tok chv live s' κ' γ' m → Q (.str ⟨#[]⟩ t) s'
      | ch :: cs' => ∀ t s' κ' γ', GSt T env s₀ κ₀ γ₀ σ₀ l lf it bm f tt (nl ch ln) cs' tok chv live s' κ' γ' m → Q (.str ⟨#[ch]⟩ t) s') :
    wpAny (model T.prog T.w) A (eval (.Call (.Attribute (.Name "self" p) "_read_char" p') [] [] p'') env) Q NoE s := by
  obtain ⟨o, ho, fd, hfd⟩ := R.obj
  refine call_attr rfl hp (by decide) rfl (look_ok' O G.inv G.fr (look_self.trans G.self) fun u r pl => ?_)
  obtain ⟨rfl, _⟩ := r
  refine lex_meth X G.inv lexAt_get (.inr (.inr rfl)) fun f' hf' => ?_
  rw [R.v] at hf'
  injection hf' with hf'
  subst hf'
  have hself : Rep T s.heap κ γ (lexAt σ₀ l lf ln cs).nx (.loc l) (.ref (γ l)) := ⟨rfl, G.ln⟩
  refine Calls.callWith_function (o := o) (fd := fd) (PyProof.Rows.evalArgs_nil3 ⟨⟨(G.inv.base _ _ ho).1, hfd⟩, ?_⟩)
  cases cs with
  | nil =>
    refine call_code (codeAny_mono (R.code (primRead_nil G.ne) (hA.less (by omega)) G.inv ⟨_, _, rfl, hself, rfl⟩) fun r s' q => ?_)
    cases r with
    | error e => exact q
    | ok fl =>
      cases fl with
      | ret v =>
        obtain ⟨κ', γ', S, I, t, rfl⟩ := q
        exact h t s' κ' γ' (G.exp S I G.lt)
      | _ => exact q
  | cons ch cs =>
    refine call_code (codeAny_mono (R.code (primRead_cons G.ne G.lt) (hA.less (by omega)) G.inv ⟨_, _, rfl, hself, rfl⟩) fun r s' q => ?_)
    cases r with
    | error e => exact q
    | ok fl =>
      cases fl with
      | ret v =>
        obtain ⟨κ', γ', S, I, t, rfl⟩ := q
        exact h t s' κ' γ' (G.exp S I fun x hx => G.lt x (List.mem_cons_of_mem _ hx))
      | _ => exact q
end
end Mine
set_option maxRecDepth 100000
namespace Mine
open PySem PyProof.Rows
/-- the loops of get_token, by place -/
def outerFor : Stmt := ((bodyOf (methAt pw ci 2))[3]?).getD (.Pass default)
def thenOf : Stmt → List Stmt
  | .If _ a _ _ => a
  | _ => []
def elseOf : Stmt → List Stmt
  | .If _ _ b _ => b
  | _ => []
def bodyFor : Stmt → List Stmt
  | .For _ _ b _ _ => b
  | _ => []
def quotedFor : Stmt := ((thenOf (((bodyFor outerFor)[1]?).getD (.Pass default)))[0]?).getD (.Pass default)
def bareFor : Stmt := ((elseOf (((bodyFor outerFor)[1]?).getD (.Pass default)))[2]?).getD (.Pass default)
theorem nl_add (ch : Nat) (ln : Int) (nn : Nat) : nl ch (ln + (nn : Nat)) = ln + ((if ch = 10 then nn + 1 else nn : Nat) : Int) := by
  unfold nl
  split
  · omega
  · rfl
theorem bare_ws {tok cs : List Nat} {ch nn : Nat} (h : ch = 10 ∨ ch = 9 ∨ ch = 13 ∨ ch = 32) : bare tok (ch :: cs) nn = (tok, cs, if ch = 10 then nn + 1 else nn) := by
  rcases h with rfl | rfl | rfl | rfl <;> (cases cs <;> simp [bare])
theorem bare_esc {tok cs : List Nat} {c2 nn : Nat} : bare tok (92 :: c2 :: cs) nn = bare (tok ++ [c2]) cs (if c2 = 10 then nn + 1 else nn) := by simp [bare]
theorem bare_end {tok : List Nat} {nn : Nat} : bare tok [92] nn = (tok, [], nn) := by simp [bare]
theorem bare_more {tok cs : List Nat} {ch nn : Nat} (h : ¬ (ch = 10 ∨ ch = 9 ∨ ch = 13 ∨ ch = 32)) (h2 : ch ≠ 92) : bare tok (ch :: cs) nn = bare (tok ++ [ch]) cs nn := by
  rw [bare]
  · simp [h]
  · intro q; exact absurd q h2
  · intro c cs q; exact absurd q h2
theorem quoted_close {tok cs : List Nat} {nn : Nat} : quoted tok (34 :: cs) nn = (tok, cs, nn) := by cases cs <;> simp [quoted]
theorem quoted_esc {tok cs : List Nat} {c2 nn : Nat} : quoted tok (92 :: c2 :: cs) nn = quoted (tok ++ [c2]) cs (if c2 = 10 then nn + 1 else nn) := by simp [quoted]
theorem quoted_end {tok : List Nat} {nn : Nat} : quoted tok [92] nn = (tok, [], nn) := by simp [quoted]
theorem quoted_more {tok cs : List Nat} {ch nn : Nat} (h : ¬ ch = 34) (h2 : ch ≠ 92) : quoted tok (ch :: cs) nn = quoted (tok ++ [ch]) cs (if ch = 10 then nn + 1 else nn) := by
  rw [quoted]
  · simp [h]
  · intro q; exact absurd q h2
  · intro c cs q; exact absurd q h2
section
variable {T : Tp} {c : Cfg} {Φ : Fns} {k : Nat} {A : Around} {env : Env} {s₀ s s' : Shared} {κ₀ κ κ' : Addr → Col} {γ₀ γ γ' : Nat → Addr} {σ₀ σ σ' : Sto} {m : Fm} {l lf : Nat} {it bm f : Addr} {tt : Tok} {ln : Int} {cs tok : List Nat} {chv : Option Str} {live : Bool}
theorem GSt.less {chv' : Option Str} (G : GSt T env s₀ κ₀ γ₀ σ₀ l lf it bm f tt ln cs tok chv live s κ γ m) (h : ∀ y, chv' = some y → chv = some y) : GSt T env s₀ κ₀ γ₀ σ₀ l lf it bm f tt ln cs tok chv' live s κ γ m := { G with ch := fun y hy => G.ch y (h y hy) }
theorem g_bare {N : Addr} {mN : Str → Option Value} (X : LexTop T N mN) (O : TopOk T c) (R : ReadFn T f) (hA : AOk A 3) (G : GSt T env s₀ κ₀ γ₀ σ₀ l lf it bm f tt ln cs tok none true s κ γ m) (hb : tok.length + cs.length ≤ 2 ^ 20) {res : List Nat × List Nat × Nat} (hres : bare tok cs 0 = res) {Q : Flow → Shared → Prop}
    (hret : ∀ t s' κ γ m live, GSt T env s₀ κ₀ γ₀ σ₀ l lf it bm f tt (ln + res.2.2) res.2.1 res.1 none live s' κ γ m → Q (.ret (.str ⟨res.1.toArray⟩ t)) s')
    (hnext : ∀ s' κ γ m, GSt T env s₀ κ₀ γ₀ σ₀ l lf it bm f tt (ln + res.2.2) [] res.1 none false s' κ γ m → res.2.1 = [] → Q .next s') :
    wpAny (model T.prog T.w) A (exec bareFor env) Q NoE s := by
  refine wpAny_For (look_ok' O G.inv G.fr (look_fiter.trans G.fiter) fun u r => ?_) (fun y => rfl)
  rw [show u = .ref it from r]
  refine pyIter_cit G.oit rfl ?_
  refine forLoop_wp (fun n s => ∃ κ γ m cs tok nn, GSt T env s₀ κ₀ γ₀ σ₀ l lf it bm f tt (ln + (nn : Nat)) cs tok none true s κ γ m ∧ bare tok cs nn = res ∧ cs.length = n ∧ tok.length + cs.length ≤ 2 ^ 20) ?_ cs.length ⟨κ, γ, m, cs, tok, 0, by simpa using G, hres, rfl, hb⟩
  rintro n s ⟨κ, γ, m, cs, tok, nn, G, hres, rfl, hb⟩
  refine wpAny_mono (g_next R hA G) (fun r s₁ q => ?_) fun _ _ z => z
  cases cs with
  | nil =>
    obtain ⟨κ', γ', rfl, G⟩ := q
    simp only [bare] at hres
    subst hres
    exact hnext s₁ κ' γ' m G rfl
  | cons ch cs =>
    obtain ⟨t, κ', γ', rfl, G⟩ := q
    simp only
    refine letGo_plain G.oit rfl (by decide) ?_
    refine wpAny_assign_Name (g_ch G fun s₂ m₂ G => ?_)
    refine wpAny_execs_cons (wpAny_If (g_in X O G fun s₃ G => ?_))
    by_cases hws : ch = 10 ∨ ch = 9 ∨ ch = 13 ∨ ch = 32
    · rw [decide_eq_true hws, if_pos rfl]
      rw [bare_ws hws] at hres
      subst hres
      rw [nl_add] at G
      refine wpAny_execs_cons (g_token O G fun t => ?_)
      exact hret t s₃ _ _ _ true (G.less fun y hy => by cases hy)
    · rw [decide_eq_false hws, if_neg (by decide)]
      have h10 : ch ≠ 10 := fun q => hws (.inl q)
      rw [nl_add, if_neg h10] at G
      refine wpAny_execs_cons (wpAny_If (g_eq O G fun s₄ G => ?_))
      by_cases h92 : ch = 92
      · subst h92
        have : ((⟨#[92]⟩ : Str) == Str.ofString "\\") = true := by decide
        rw [this, if_pos rfl]
        refine wpAny_execs_cons (wpAny_Assign_Name (g_read X O R hA G rfl ?_))
        cases cs with
        | nil =>
          intro t5 s₅ κ₅ γ₅ G
          refine g_ch G fun s₆ m₆ G => wpAny_execs_nil (wpAny_execs_nil ?_)
          rw [bare_end] at hres
          refine wpAny_execs_cons (g_add O (y := []) G (by simp at hb ⊢; omega) fun s₇ m₇ G => wpAny_execs_nil ⟨0, by simp, _, _, _, [], tok, nn, by simpa using G, by simpa [bare] using hres, rfl, by simp at hb ⊢; omega⟩)
        | cons c2 cs =>
          intro t5 s₅ κ₅ γ₅ G
          refine g_ch G fun s₆ m₆ G => wpAny_execs_nil (wpAny_execs_nil ?_)
          rw [bare_esc] at hres
          rw [nl_add] at G
          refine wpAny_execs_cons (g_add O (y := [c2]) G (by simp at hb ⊢; omega) fun s₇ m₇ G => wpAny_execs_nil ⟨cs.length, by simp only [List.length_cons]; omega, _, _, _, cs, tok ++ [c2], _, G, hres, rfl, by simp at hb ⊢; omega⟩)
      · have : ((⟨#[ch]⟩ : Str) == Str.ofString "\\") = false := by
          rw [beq_eq_false_iff_ne]
          intro q
          have q2 : (⟨#[ch]⟩ : Str) = ⟨#[92]⟩ := q.trans (by decide)
          simp at q2
          exact h92 q2
        rw [this, if_neg (by decide)]
        refine wpAny_execs_nil (wpAny_execs_nil ?_)
        rw [bare_more hws h92] at hres
        refine wpAny_execs_cons (g_add O (y := [ch]) G (by simp at hb ⊢; omega) fun s₇ m₇ G => wpAny_execs_nil ⟨cs.length, by simp only [List.length_cons]; omega, _, _, _, cs, tok ++ [ch], nn, G, hres, rfl, by simp at hb ⊢; omega⟩)
theorem g_quoted {N : Addr} {mN : Str → Option Value} (X : LexTop T N mN) (O : TopOk T c) (R : ReadFn T f) (hA : AOk A 3) (G : GSt T env s₀ κ₀ γ₀ σ₀ l lf it bm f tt ln cs tok none true s κ γ m) (hb : tok.length + cs.length ≤ 2 ^ 20) {res : List Nat × List Nat × Nat} (hres : quoted tok cs 0 = res) {Q : Flow → Shared → Prop}
    (hret : ∀ t s' κ γ m live, GSt T env s₀ κ₀ γ₀ σ₀ l lf it bm f tt (ln + res.2.2) res.2.1 res.1 none live s' κ γ m → Q (.ret (.str ⟨res.1.toArray⟩ t)) s')
    (hnext : ∀ s' κ γ m, GSt T env s₀ κ₀ γ₀ σ₀ l lf it bm f tt (ln + res.2.2) [] res.1 none false s' κ γ m → res.2.1 = [] → Q .next s') :
    wpAny (model T.prog T.w) A (exec quotedFor env) Q NoE s := by
  refine wpAny_For (look_ok' O G.inv G.fr (look_fiter.trans G.fiter) fun u r => ?_) (fun y => rfl)
  rw [show u = .ref it from r]
  refine pyIter_cit G.oit rfl ?_
  refine forLoop_wp (fun n s => ∃ κ γ m cs tok nn, GSt T env s₀ κ₀ γ₀ σ₀ l lf it bm f tt (ln + (nn : Nat)) cs tok none true s κ γ m ∧ quoted tok cs nn = res ∧ cs.length = n ∧ tok.length + cs.length ≤ 2 ^ 20) ?_ cs.length ⟨κ, γ, m, cs, tok, 0, by simpa using G, hres, rfl, hb⟩
  rintro n s ⟨κ, γ, m, cs, tok, nn, G, hres, rfl, hb⟩
  refine wpAny_mono (g_next R hA G) (fun r s₁ q => ?_) fun _ _ z => z
  cases cs with
  | nil =>
    obtain ⟨κ', γ', rfl, G⟩ := q
    simp only [quoted] at hres
    subst hres
    exact hnext s₁ κ' γ' m G rfl
  | cons ch cs =>
    obtain ⟨t, κ', γ', rfl, G⟩ := q
    simp only
    refine letGo_plain G.oit rfl (by decide) ?_
    refine wpAny_assign_Name (g_ch G fun s₂ m₂ G => ?_)
    refine wpAny_execs_cons (wpAny_If (g_eq O G fun s₃ G => ?_))
    by_cases hws : ch = 34
    · subst hws
      have : ((⟨#[34]⟩ : Str) == Str.ofString "\"") = true := by decide
      rw [this, if_pos rfl]
      rw [quoted_close] at hres
      subst hres
      rw [nl_add, if_neg (by decide)] at G
      refine wpAny_execs_cons (g_token O G fun t => ?_)
      exact hret t s₃ _ _ _ true (G.less fun y hy => by cases hy)
    · have : ((⟨#[ch]⟩ : Str) == Str.ofString "\"") = false := by
        rw [beq_eq_false_iff_ne]
        intro q
        have q2 : (⟨#[ch]⟩ : Str) = ⟨#[34]⟩ := q.trans (by decide)
        simp at q2
        exact hws q2
      rw [this, if_neg (by decide)]
      rw [nl_add] at G
      refine wpAny_execs_cons (wpAny_If (g_eq O G fun s₄ G => ?_))
      by_cases h92 : ch = 92
      · subst h92
        rw [if_neg (by decide)] at G
        have : ((⟨#[92]⟩ : Str) == Str.ofString "\\") = true := by decide
        rw [this, if_pos rfl]
        refine wpAny_execs_cons (wpAny_Assign_Name (g_read X O R hA G rfl ?_))
        cases cs with
        | nil =>
          intro t5 s₅ κ₅ γ₅ G
          refine g_ch G fun s₆ m₆ G => wpAny_execs_nil (wpAny_execs_nil ?_)
          rw [quoted_end] at hres
          refine wpAny_execs_cons (g_add O (y := []) G (by simp at hb ⊢; omega) fun s₇ m₇ G => wpAny_execs_nil ⟨0, by simp, _, _, _, [], tok, nn, by simpa using G, by simpa [quoted] using hres, rfl, by simp at hb ⊢; omega⟩)
        | cons c2 cs =>
          intro t5 s₅ κ₅ γ₅ G
          refine g_ch G fun s₆ m₆ G => wpAny_execs_nil (wpAny_execs_nil ?_)
          rw [quoted_esc] at hres
          rw [nl_add] at G
          refine wpAny_execs_cons (g_add O (y := [c2]) G (by simp at hb ⊢; omega) fun s₇ m₇ G => wpAny_execs_nil ⟨cs.length, by simp only [List.length_cons]; omega, _, _, _, cs, tok ++ [c2], _, G, hres, rfl, by simp at hb ⊢; omega⟩)
      · have : ((⟨#[ch]⟩ : Str) == Str.ofString "\\") = false := by
          rw [beq_eq_false_iff_ne]
          intro q
          have q2 : (⟨#[ch]⟩ : Str) = ⟨#[92]⟩ := q.trans (by decide)
          simp at q2
          exact h92 q2
        rw [this, if_neg (by decide)]
        refine wpAny_execs_nil (wpAny_execs_nil ?_)
        rw [quoted_more hws h92] at hres
        refine wpAny_execs_cons (g_add O (y := [ch]) G (by simp at hb ⊢; omega) fun s₇ m₇ G => wpAny_execs_nil ⟨cs.length, by simp only [List.length_cons]; omega, _, _, _, cs, tok ++ [ch], _, G, hres, rfl, by simp at hb ⊢; omega⟩)
end
end Mine
set_option maxRecDepth 100000
namespace Mine
open PySem PyProof.Rows
def addN (d : Nat) (r : List Nat × List Nat × Nat) : List Nat × List Nat × Nat := (r.1, r.2.1, r.2.2 + d)
theorem bare_shift (d : Nat) : ∀ (N : Nat) (cs tok : List Nat) (n : Nat), cs.length ≤ N → bare tok cs (n + d) = addN d (bare tok cs n)
  | _, [], tok, n, _ => by simp [bare, addN]
  | 0, _ :: _, _, _, h => by simp at h
  | N + 1, ch :: cs, tok, n, h => by
    by_cases h92 : ch = 92
    · subst h92
      cases cs with
      | nil => simp [bare_end, addN]
      | cons c2 cs =>
        rw [bare_esc, bare_esc]
        have := bare_shift d N cs (tok ++ [c2]) (if c2 = 10 then n + 1 else n) (by simp at h ⊢; omega)
        rw [← this]
        congr 1
        split <;> omega
    · by_cases hws : ch = 10 ∨ ch = 9 ∨ ch = 13 ∨ ch = 32
      · rw [bare_ws hws, bare_ws hws, addN]
        simp only [Prod.mk.injEq, true_and]
        split <;> omega
      · rw [bare_more hws h92, bare_more hws h92]
        exact bare_shift d N cs _ n (by simp at h ⊢; omega)
theorem quoted_shift (d : Nat) : ∀ (N : Nat) (cs tok : List Nat) (n : Nat), cs.length ≤ N → quoted tok cs (n + d) = addN d (quoted tok cs n)
  | _, [], tok, n, _ => by simp [quoted, addN]
  | 0, _ :: _, _, _, h => by simp at h
  | N + 1, ch :: cs, tok, n, h => by
    by_cases h92 : ch = 92
    · subst h92
      cases cs with
      | nil => simp [quoted_end, addN]
      | cons c2 cs =>
        rw [quoted_esc, quoted_esc]
        have := quoted_shift d N cs (tok ++ [c2]) (if c2 = 10 then n + 1 else n) (by simp at h ⊢; omega)
        rw [← this]
        congr 1
        split <;> omega
    · by_cases hws : ch = 34
      · subst hws
        rw [quoted_close, quoted_close, addN]
      · rw [quoted_more hws h92, quoted_more hws h92]
        have := quoted_shift d N cs (tok ++ [ch]) (if ch = 10 then n + 1 else n) (by simp at h ⊢; omega)
        rw [← this]
        congr 1
        split <;> omega
theorem token_ws {cs : List Nat} {ch nn : Nat} (h : ch = 10 ∨ ch = 9 ∨ ch = 13 ∨ ch = 32) : token (ch :: cs) nn = token cs (if ch = 10 then nn + 1 else nn) := by
  rcases h with rfl | rfl | rfl | rfl <;> (cases cs <;> simp [token])
theorem token_quote {cs : List Nat} {nn : Nat} : token (34 :: cs) nn = quoted [] cs nn := by cases cs <;> simp [token]
theorem token_esc {cs : List Nat} {c2 nn : Nat} : token (92 :: c2 :: cs) nn = bare [c2] cs (if c2 = 10 then nn + 1 else nn) := by simp [token]
theorem token_end {nn : Nat} : token [92] nn = ([], [], nn) := by simp [token]
theorem token_more {cs : List Nat} {ch nn : Nat} (h : ¬ (ch = 10 ∨ ch = 9 ∨ ch = 13 ∨ ch = 32)) (h1 : ch ≠ 34) (h2 : ch ≠ 92) : token (ch :: cs) nn = bare [ch] cs nn := by
  rw [token]
  · simp [h]
  · intro q; exact absurd q h1
  · intro q; exact absurd q h2
  · intro c cs q; exact absurd q h2
theorem addN_dead {d : Nat} {r : List Nat × List Nat × Nat} (h : r.2.1 = []) : addN d r = (r.1, [], r.2.2 + d) := by simp [addN, h]
theorem addN_ln (ln : Int) (d : Nat) (r : List Nat × List Nat × Nat) : ln + (d : Nat) + (r.2.2 : Nat) = ln + ((addN d r).2.2 : Nat) := by simp [addN]; omega
theorem addN_ln2 (ln : Int) (d : Nat) (r : List Nat × List Nat × Nat) : ln + (d : Nat) + (r.2.2 : Nat) = ln + ((r.2.2 + d : Nat) : Int) := by omega
def retStmt : Stmt := ((bodyOf (methAt pw ci 2))[4]?).getD (.Pass default)
section
variable {T : Tp} {c : Cfg} {Φ : Fns} {k : Nat} {A : Around} {env : Env} {s₀ s s' : Shared} {κ₀ κ κ' : Addr → Col} {γ₀ γ γ' : Nat → Addr} {σ₀ σ σ' : Sto} {m : Fm} {l lf : Nat} {it bm f : Addr} {tt : Tok} {ln : Int} {cs tok : List Nat} {chv : Option Str} {live : Bool}
theorem GSt.lnEq {ln' : Int} (G : GSt T env s₀ κ₀ γ₀ σ₀ l lf it bm f tt ln cs tok chv live s κ γ m) (h : ln = ln') : GSt T env s₀ κ₀ γ₀ σ₀ l lf it bm f tt ln' cs tok chv live s κ γ m := h ▸ G
theorem g_bareEnd {N : Addr} {mN : Str → Option Value} (X : LexTop T N mN) (O : TopOk T c) (R : ReadFn T f) (hA : AOk A 3) {d : Nat} (G : GSt T env s₀ κ₀ γ₀ σ₀ l lf it bm f tt (ln + (d : Nat)) cs tok none true s κ γ m) (hb : tok.length + cs.length ≤ 2 ^ 20) {res : List Nat × List Nat × Nat} (hres : addN d (bare tok cs 0) = res) {Q : Flow → Shared → Prop}
    (hret : ∀ t s' κ γ m live, GSt T env s₀ κ₀ γ₀ σ₀ l lf it bm f tt (ln + res.2.2) res.2.1 res.1 none live s' κ γ m → Q (.ret (.str ⟨res.1.toArray⟩ t)) s')
    (hnext : ∀ s' κ γ m, GSt T env s₀ κ₀ γ₀ σ₀ l lf it bm f tt (ln + res.2.2) [] res.1 none false s' κ γ m → res = (res.1, [], res.2.2) → Q .next s') :
    wpAny (model T.prog T.w) A (exec bareFor env) Q NoE s := by
  subst hres
  exact g_bare X O R hA G hb rfl (fun t s' κ γ m live G => hret t s' κ γ m live (G.lnEq (addN_ln _ _ _))) fun s' κ γ m G h => hnext s' κ γ m (G.lnEq (addN_ln _ _ _)) (addN_dead h)
theorem g_outer {N : Addr} {mN : Str → Option Value} (X : LexTop T N mN) (O : TopOk T c) (R : ReadFn T f) (hA : AOk A 3) (G : GSt T env s₀ κ₀ γ₀ σ₀ l lf it bm f tt ln cs [] none true s κ γ m) (hb : cs.length ≤ 2 ^ 20) {res : List Nat × List Nat × Nat} (hres : token cs 0 = res) {Q : Flow → Shared → Prop}
    (hret : ∀ t s' κ γ m live, GSt T env s₀ κ₀ γ₀ σ₀ l lf it bm f tt (ln + res.2.2) res.2.1 res.1 none live s' κ γ m → Q (.ret (.str ⟨res.1.toArray⟩ t)) s') :
    wpAny (model T.prog T.w) A (execs [outerFor, retStmt] env) Q NoE s := by
  refine wpAny_execs_cons ?_
  refine wpAny_For (look_ok' O G.inv G.fr (look_fiter.trans G.fiter) fun u r => ?_) (fun y => rfl)
  rw [show u = .ref it from r]
  refine pyIter_cit G.oit rfl ?_
  refine forLoop_wp (fun n s => ∃ κ γ m cs tok nn live, GSt T env s₀ κ₀ γ₀ σ₀ l lf it bm f tt (ln + (nn : Nat)) cs tok none live s κ γ m ∧ ((live = true ∧ tok = [] ∧ token cs nn = res ∧ n = cs.length + 1 ∧ cs.length ≤ 2 ^ 20) ∨ (live = false ∧ cs = [] ∧ res = (tok, [], nn) ∧ n = 0))) ?_ (cs.length + 1) ⟨κ, γ, m, cs, [], 0, true, by simpa using G, .inl ⟨rfl, rfl, hres, rfl, hb⟩⟩
  rintro n s ⟨κ, γ, m, cs, tok, nn, live, G, (⟨rfl, rfl, hres, rfl, hb⟩ | ⟨rfl, rfl, rfl, rfl⟩)⟩
  · refine wpAny_mono (g_next R hA G) (fun r s₁ q => ?_) fun _ _ z => z
    cases cs with
    | nil =>
      obtain ⟨κ', γ', rfl, G⟩ := q
      simp only [token] at hres
      subst hres
      refine wpAny_execs_cons (g_token O G fun t => ?_)
      exact hret t s₁ _ _ _ false G
    | cons ch cs =>
      obtain ⟨t, κ', γ', rfl, G⟩ := q
      simp only
      refine letGo_plain G.oit rfl (by decide) ?_
      refine wpAny_assign_Name (g_ch G fun s₂ m₂ G => ?_)
      refine wpAny_execs_cons (wpAny_If (g_in X O G fun s₃ G => ?_))
      rw [nl_add] at G
      by_cases hws : ch = 10 ∨ ch = 9 ∨ ch = 13 ∨ ch = 32
      · rw [decide_eq_true hws, if_pos rfl]
        rw [token_ws hws] at hres
        refine wpAny_execs_cons ?_
        refine wpAny_Continue ⟨cs.length + 1, by simp, _, _, _, cs, [], _, true, (G.less fun y hy => by cases hy), .inl ⟨rfl, rfl, hres, rfl, by simp at hb; omega⟩⟩
      · rw [decide_eq_false hws, if_neg (by decide)]
        have h10 : ch ≠ 10 := fun q => hws (.inl q)
        rw [if_neg h10] at G
        refine wpAny_execs_nil (wpAny_execs_cons (wpAny_If (g_eq O G fun s₄ G => ?_)))
        by_cases h34 : ch = 34
        · subst h34
          have : ((⟨#[34]⟩ : Str) == Str.ofString "\"") = true := by decide
          rw [this, if_pos rfl]
          rw [token_quote] at hres
          have hs := quoted_shift nn cs.length cs [] 0 (Nat.le_refl _)
          rw [Nat.zero_add, hres] at hs
          subst hs
          refine wpAny_execs_cons (g_quoted X O R hA (G.less fun y hy => by cases hy) (by simp at hb ⊢; omega) rfl (fun t s' κ γ m live G => hret t s' κ γ m live (G.lnEq (addN_ln _ _ _))) (fun s' κ γ m G hnil => ?_))
          exact wpAny_execs_nil (wpAny_execs_nil ⟨0, by simp, _, _, _, [], _, _, false, G.lnEq (addN_ln2 _ _ _), .inr ⟨rfl, rfl, addN_dead hnil, rfl⟩⟩)
        · have : ((⟨#[ch]⟩ : Str) == Str.ofString "\"") = false := by
            rw [beq_eq_false_iff_ne]
            intro q
            have q2 : (⟨#[ch]⟩ : Str) = ⟨#[34]⟩ := q.trans (by decide)
            simp at q2
            exact h34 q2
          rw [this, if_neg (by decide)]
          refine wpAny_execs_cons (wpAny_If (g_eq O G fun s₅ G => ?_))
          by_cases h92 : ch = 92
          · subst h92
            have : ((⟨#[92]⟩ : Str) == Str.ofString "\\") = true := by decide
            rw [this, if_pos rfl]
            refine wpAny_execs_cons (wpAny_Assign_Name (g_read X O R hA G rfl ?_))
            cases cs with
            | nil =>
              intro t5 s₅ κ₅ γ₅ G
              refine g_ch G fun s₆ m₆ G => wpAny_execs_nil ?_
              rw [token_end] at hres
              subst hres
              refine wpAny_execs_cons (g_add O (y := []) G (by simp) fun s₇ m₇ G => wpAny_execs_cons (g_bareEnd X O R hA G (by simp at hb ⊢) rfl (fun t s' κ γ m live G => ?_) (fun s' κ γ m G hr => ?_)))
              · simpa [bare, addN] using hret t s' κ γ m live (by simpa [bare, addN] using G)
              · exact wpAny_execs_nil (wpAny_execs_nil ⟨0, by simp, _, _, _, [], _, _, false, G, .inr ⟨rfl, rfl, by simp [bare, addN], rfl⟩⟩)
            | cons c2 cs =>
              intro t5 s₅ κ₅ γ₅ G
              refine g_ch G fun s₆ m₆ G => wpAny_execs_nil ?_
              rw [token_esc] at hres
              rw [nl_add] at G
              refine wpAny_execs_cons (g_add O (y := [c2]) G (by simp) fun s₇ m₇ G => wpAny_execs_cons (g_bareEnd X O R hA G (by simp at hb ⊢; omega) rfl (fun t s' κ γ m live G => ?_) (fun s' κ γ m G hr => ?_)))
              · rw [← bare_shift _ cs.length cs _ 0 (Nat.le_refl _), Nat.zero_add, List.nil_append, hres] at G ⊢
                exact hret t s' κ γ m live G
              · rw [← bare_shift _ cs.length cs _ 0 (Nat.le_refl _), Nat.zero_add, List.nil_append, hres] at G hr
                exact wpAny_execs_nil (wpAny_execs_nil ⟨0, by simp, _, _, _, [], _, _, false, G, .inr ⟨rfl, rfl, hr, rfl⟩⟩)
          · have : ((⟨#[ch]⟩ : Str) == Str.ofString "\\") = false := by
              rw [beq_eq_false_iff_ne]
              intro q
              have q2 : (⟨#[ch]⟩ : Str) = ⟨#[92]⟩ := q.trans (by decide)
              simp at q2
              exact h92 q2
            rw [this, if_neg (by decide)]
            refine wpAny_execs_nil ?_
            rw [token_more hws h34 h92] at hres
            refine wpAny_execs_cons (g_add O (y := [ch]) G (by simp) fun s₇ m₇ G => wpAny_execs_cons (g_bareEnd X O R hA G (by simp at hb ⊢; omega) rfl (fun t s' κ γ m live G => ?_) (fun s' κ γ m G hr => ?_)))
            · rw [← bare_shift _ cs.length cs _ 0 (Nat.le_refl _), Nat.zero_add, List.nil_append, hres] at G ⊢
              exact hret t s' κ γ m live G
            · rw [← bare_shift _ cs.length cs _ 0 (Nat.le_refl _), Nat.zero_add, List.nil_append, hres] at G hr
              exact wpAny_execs_nil (wpAny_execs_nil ⟨0, by simp, _, _, _, [], _, _, false, G, .inr ⟨rfl, rfl, hr, rfl⟩⟩)
  · refine wpAny_mono (g_next_end hA G) (fun r s₁ q => ?_) fun _ _ z => z
    obtain ⟨rfl, G⟩ := q
    exact wpAny_execs_cons (g_token O G fun t => hret t s₁ _ _ _ false G)
end
end Mine
set_option maxRecDepth 100000
namespace Mine
open PySem PyProof.Rows
theorem signs_eq : ∀ {xs : List AV} {cs : List Nat}, signs? xs = some cs → xs = chars cs ∧ ∀ x ∈ cs, x < 0x110000
  | [], cs, h => by simp [signs?] at h; subst h; exact ⟨rfl, by simp⟩
  | x :: xs, cs, h => by
    unfold signs? at h
    split at h
    · rename_i hx
      cases hx
    · rename_i y xs' hx
      injection hx with h1 h2
      subst h1; subst h2
      split at h
      · rename_i c hc1
        split at h
        · rename_i hc
          cases e : signs? xs with
          | none => rw [e] at h; cases h
          | some ds =>
            rw [e] at h
            simp only [Option.map_some, Option.some.injEq] at h
            subst h
            obtain ⟨q1, q2⟩ := signs_eq e
            subst q1
            have hy : y = ⟨#[c]⟩ := by
              cases y with
              | mk a => cases a with
                | mk ls => simp only at hc1; subst hc1; rfl
            subst hy
            refine ⟨rfl, fun x hx => ?_⟩
            rcases List.mem_cons.mp hx with rfl | hx
            · exact hc
            · exact q2 x hx
        · cases h
      · cases h
    · cases h
section
variable {T : Tp} {c : Cfg} {Φ : Fns} {k : Nat} {A : Around} {s s' : Shared} {κ κ' : Addr → Col} {γ γ' : Nat → Addr} {σ σ' : Sto} {n : Nat}
theorem get_pop {N : Addr} {mN : Str → Option Value} (X : LexTop T N mN) (O : TopOk T c) {a : Addr} {fd : FuncData} (D : FdAt T.h₀ a fd (bodyOf (methAt pw ci 2)) ["self"]) (hclo : fd.closure = []) (hsc : fd.scope = scopeOf (methAt pw ci 2))
    {l lf : Nat} {ln : Int} {t : AV} {ts : List AV} {vs : List Value} (hg : σ.get l = some (.lexer ln lf (t :: ts))) (hA : AOk A (k + 1)) (I : Inv T s κ γ σ) (r : RepL T s.heap κ γ σ.nx [.loc l] vs) :
    wpAny (model T.prog T.w) A (call (.ref a) vs) (EvP T s κ γ σ.nx t (σ.upd l (.lexer ln lf ts))) NoE s := by
  have hk0 : ∀ b o, T.h₀.get? b = some o → s.heap.get? b = some o := fun b o e => (I.base b o e).1
  obtain ⟨v1, us, rfl, r1, hus⟩ := r
  rw [show us = [] from hus]
  refine fd_frame (k := k) (D.keeps hk0) hclo (by rw [hsc]; decide) hA I (O.nolimit.keeps hk0) rfl (args := [.loc l]) ⟨_, _, rfl, r1, rfl⟩ fun env h₁ tk κ₁ hes hA1 F1 I1 S1 hown => ?_
  rw [hsc] at F1
  obtain ⟨d, pb, ws, ep, sv, tl, tw, mA, hi, hN1, hd, ho, c1, c2, c3, a5, a6, m1, m2, rs, m3, m4, m5, hpb, hb, rp⟩ := lex_inst I1 hg
  obtain ⟨v0, ws, rfl, r0, rws⟩ := rp
  have hrl := rws.length
  simp only [List.length_cons] at hb
  refine wpAny_execs_cons (wpAny_If (isTrue_plain (attr_self X O I1 F1 (l := l) (by kernel_rfl) hi (by simp [lexNames]) m4 rfl (wpAny_truthy_list (lobj_list hpb) (by simp; omega) ?_))))
  rw [show (!(v0 :: ws).toArray.isEmpty) = true from rfl, if_pos rfl]
  refine wpAny_execs_cons (wpAny_Return_some (call_attr rfl rfl (by decide) rfl (attr_self (s := { s with heap := h₁, toks := tk + 1 + 1 + 1 }) X O I1.toks F1 (l := l) (by kernel_rfl) hi (by simp [lexNames]) m4 rfl fun pl => ?_)))
  refine getMethod_list_of F.slot_list_pop F.type_list_pop (lobj_list hpb) ⟨_, hpb, rfl⟩ ?_
  refine Calls.callWith_builtin rfl (Calls.evalArgs_plain (Calls.spliced_cons (wpAny_Constant_int (k := 0) (pos := ⟨0, 0, 0, 0⟩) (Calls.spliced_nil ?_))))
  refine pop0 (s := { s with heap := h₁, toks := tk + 1 + 1 + 1 + 1 + 1 }) hpb (by omega) fun h' ep' hs hl => ?_
  obtain ⟨S3, I3⟩ := upd_push (push' := ts) (tk := tk + 1 + 1 + 1 + 1 + 1) I1 hg hi hN1 hd ho c1 c2 c3 a5 a6 m1 m2 rs m3 m4 m5 hs hl (by omega) rws
  show EvP T s κ γ σ.nx t (σ.upd l (.lexer ln lf ts)) v0 _
  exact ⟨_, _, S1.te S3, I3, r0.steps (S3.ps (W := fun _ => False))⟩
theorem lexAt_same {l lf : Nat} {ln : Int} {cs : List Nat} (h1 : σ.get l = some (.lexer ln lf [])) (h2 : σ.get lf = some (.list (chars cs))) : lexAt σ l lf ln cs = σ := by
  unfold lexAt
  rw [upd_same h2, upd_same h1]
theorem get_text {N : Addr} {mN : Str → Option Value} (X : LexTop T N mN) (O : TopOk T c) (hit : c.glob "iter" = some (.bi "iter")) {f : Addr} (R : ReadFn T f) {a : Addr} {fd : FuncData} (D : FdAt T.h₀ a fd (bodyOf (methAt pw ci 2)) ["self"]) (hclo : fd.closure = []) (hsc : fd.scope = scopeOf (methAt pw ci 2))
    {l lf : Nat} {ln : Int} {cs : List Nat} {vs : List Value} (hg : σ.get l = some (.lexer ln lf [])) (hgf : σ.get lf = some (.list (chars cs))) (hlt : ∀ x ∈ cs, x < 0x110000) (hb20 : cs.length ≤ 2 ^ 20) {res : List Nat × List Nat × Nat} (hres : token cs 0 = res)
    (hA : AOk A (k + 4)) (I : Inv T s κ γ σ) (r : RepL T s.heap κ γ σ.nx [.loc l] vs) :
    wpAny (model T.prog T.w) A (call (.ref a) vs) (EvP T s κ γ σ.nx (.str ⟨res.1.toArray⟩) (lexAt σ l lf (ln + res.2.2) res.2.1)) NoE s := by
  have hk0 : ∀ b o, T.h₀.get? b = some o → s.heap.get? b = some o := fun b o e => (I.base b o e).1
  have hne : lf ≠ l := by rintro rfl; rw [hg] at hgf; cases hgf
  have hln := (I.objs _ _ hg).1
  obtain ⟨v1, us, rfl, r1, hus⟩ := r
  rw [show us = [] from hus]
  refine fd_frame (k := k + 3) (D.keeps hk0) hclo (by rw [hsc]; decide) hA I (O.nolimit.keeps hk0) rfl (args := [.loc l]) ⟨_, _, rfl, r1, rfl⟩ fun env h₁ tk κ₁ hes hA1 F1 I1 S1 hown => ?_
  rw [hsc] at F1
  obtain ⟨d, pb, ws, ep, sv, tl, tw, mA, hi, hN1, hd, ho, c1, c2, c3, a5, a6, m1, m2, rs, m3, m4, m5, hpb, hb, rp⟩ := lex_inst I1 hg
  obtain rfl : ws = [] := rp
  refine wpAny_execs_cons (wpAny_If (isTrue_plain (attr_self X O I1 F1 (l := l) (by kernel_rfl) hi (by simp [lexNames]) m4 rfl (wpAny_truthy_list (lobj_list hpb) (by decide) ?_))))
  rw [show (!([] : List Value).toArray.isEmpty) = false from rfl, if_neg (by decide)]
  refine wpAny_execs_nil ?_
  refine wpAny_execs_cons (wpAny_Assign_Name (wpAny_Constant_str ?_))
  refine bind_ok (s := { s with heap := h₁, toks := _ }) I1.toks F1 (x := "token") (v := .str ⟨#[]⟩) (.inl (by kernel_rfl)) ⟨_, rfl⟩ fun s2 S2 I2 F2 => ?_
  refine wpAny_execs_cons (wpAny_Assign_Name (PyProof.Rows.Call_Name rfl ?_))
  refine look_ok' O I2 F2 (v := .bi "iter") (hit ▸ (by kernel_rfl)) fun u ru => ?_
  obtain rfl : Value.builtin "iter" = u := Option.some.inj ((show biV "iter" = some (.builtin "iter") by kernel_rfl).symm.trans ru)
  refine Calls.callWith_builtin rfl (Calls.evalArgs_plain (Calls.spliced_cons ?_))
  rw [arm_eval_Attribute, base_plain rfl]
  refine wpAny_bind (look_ok' O I2 F2 (v := .loc l) (by kernel_rfl) fun u ru => ?_)
  obtain ⟨rfl, _⟩ := ru
  refine wpAny_bind (wpAny_standAt (wpAny_bind (wpAny_holding ?_)))
  obtain ⟨f', fdf, of, q1, q2, q3, q4, q5⟩ := X.meth "_read_char" (by simp)
  obtain rfl : f = f' := by have := R.v.symm.trans q1; injection this with this; injection this
  obtain ⟨h2, g2, d2, t2, os2⟩ := s2
  have hk2 : ∀ b o, T.h₀.get? b = some o → h2.get? b = some o := fun b o e => (I2.base b o e).1
  obtain ⟨nm', q, bs, sn, sub, col, dd, k0, k1, k2, k3, k5, hC⟩ := (X.cls.keeps hk2).obj
  obtain ⟨d', pb', ws', ep', sv', tl', tw', mA', hi', _, _, _, _, _, _, _, _, _, _, _, _, _, m5', _⟩ := lex_inst I2 hg
  refine bound_attr hC (X.cls.keeps hk2).ns (X.no _ (by simp)) q2 (X.no _ (by simp)) (hk2 _ _ q3) q4 hi' (m5' _ (by decide)) ?_
  refine wpAny_bind (wpAny_letTemporaryGo (wpAny_pure ?_))
  refine Calls.spliced_cons (wpAny_Constant_str (k := 0) (pos := ⟨0, 0, 0, 0⟩) (Calls.spliced_nil ?_))
  have hbm : (h2.push (W.methodObj (.ref f) (.ref (γ l)))).get? h2.objs.size = some (W.methodObj (.ref f) (.ref (γ l))) := Heap.get?_push_size _ rfl
  refine call_iter (f := f) (x := .ref (γ l)) hbm ?_
  generalize hh3 : h2.push (W.methodObj (.ref f) (.ref (γ l))) = h3 at hbm
  have hk23 : ∀ b o, h2.get? b = some o → h3.get? b = some o := hh3 ▸ push_keeps _ _
  generalize htt : t2 + 1 = tt
  dsimp only
  generalize hh4 : h3.push (citObj (.ref h2.objs.size) tt) = h4
  have hk34 : ∀ b o, h3.get? b = some o → h4.get? b = some o := hh4 ▸ push_keeps _ _
  have hk24 : ∀ b o, h2.get? b = some o → h4.get? b = some o := fun b o e => hk34 _ _ (hk23 _ _ e)
  have hcit : h4.get? h3.objs.size = some (citObj (.ref h2.objs.size) tt) := by rw [← hh4]; exact Heap.get?_push_size _ rfl
  have hb23 : h2.objs.size < h3.objs.size := Heap.lt_size hbm
  have hnone : ∀ {h : Heap} {b : Addr}, h.objs.size ≤ b → h.get? b = none := fun {h b} hb => by
    cases e : h.get? b with
    | none => rfl
    | some o => exact absurd (Heap.lt_size e) (Nat.not_lt.mpr hb)
  let κ2 : Addr → Col := fun b => if (h2.get? b).isSome then κ₁ b else .tmp
  have hc2 : ∀ b, (h2.get? b).isSome → κ2 b = κ₁ b := fun b hb => if_pos hb
  have hct : ∀ b, h2.objs.size ≤ b → κ2 b = .tmp := fun b hb => if_neg (by rw [hnone hb]; simp)
  have S3 : Step (Ps (Owns env sc2)) _ κ₁ γ σ.nx _ κ2 γ σ.nx := Step.keeps (s := ⟨h2, g2, d2, t2, os2⟩) (h' := h4) (tk := tt + 1) hk24 hc2
  have S3e : Step Pe _ κ₁ γ σ.nx _ κ2 γ σ.nx := Step.keeps (s := ⟨h2, g2, d2, t2, os2⟩) (h' := h4) (tk := tt + 1) hk24 hc2
  have I3 := I2.keeps (s := ⟨h2, g2, d2, t2, os2⟩) (h' := h4) (tk := tt + 1) hk24 hc2
  have F3 := FrOk.step (s := ⟨h2, g2, d2, t2, os2⟩) F2 S3e
  refine bind_ok (s := ⟨h4, g2, d2, tt + 1, os2⟩) I3 F3 (x := "fiter") (v := .opq h3.objs.size) (.inl (by kernel_rfl)) rfl fun s5 S5 I5 F5 => ?_
  have hw : ∀ b, κ2 b = .tmp → ¬ Owns env sc2 b := fun b hb x => by obtain ⟨L, q⟩ := Owns.col F3 x; rw [hb] at q; cases q
  have hlex := lexAt_same hg hgf
  have S05 := (((S1.te (.toks (tk := _))).ps.ts S2).ts S3).ts S5
  have hal : ∀ b, h2.objs.size ≤ b → s.heap.get? b = none := fun b hb => by
    cases e : s.heap.get? b with
    | none => rfl
    | some o =>
      have e2 := ((S1.te (.toks (tk := _))).ps.ts S2).alive b (by rw [e]; rfl)
      rw [show (Shared.mk h2 g2 d2 t2 os2).heap = h2 from rfl, hnone hb] at e2
      cases e2
  have G : GSt T env s κ γ σ l lf h3.objs.size h2.objs.size f tt ln cs [] none true s5 κ2 γ _ :=
    { step := S05, inv := by rw [hlex]; exact I5, fr := F5, self := by rw [Fm.set, if_neg (by decide), Fm.set, if_neg (by decide)]; kernel_rfl, token := by rw [Fm.set, if_neg (by decide), Fm.set, if_pos rfl], fiter := by rw [Fm.set, if_pos rfl], ch := fun y hy => by cases hy
      cit := hct _ (by omega), cbm := hct _ (Nat.le_refl _), oit := S5.keep _ _ hcit (by rw [hct _ (by omega)]; exact ps_tmp (hw _ (hct _ (by omega)))), obm := S5.keep _ _ (hk34 _ _ hbm) (by rw [hct _ (Nat.le_refl _)]; exact ps_tmp (hw _ (hct _ (Nat.le_refl _))))
      lt := hlt, ne := hne, ln := hln, nit := hal _ (by omega), bmit := Nat.ne_of_lt hb23 }
  refine wpAny_mono (g_outer X O R (hA1.less (by omega)) G hb20 hres (Q := fun fl s' => EvP T s κ γ σ.nx (.str ⟨res.1.toArray⟩) (lexAt σ l lf (ln + res.2.2) res.2.1) (match fl with | .ret v => v | _ => .none) s') fun t s' κ' γ' m live G => ?_) (fun _ _ z => z) fun _ _ z => z
  rw [hsc] at hown
  exact ⟨κ', γ', G.step.pe hown, G.inv, ⟨t, rfl⟩⟩
end
end Mine
set_option maxRecDepth 100000
namespace Mine
open PySem PyProof.Rows
section
variable {T : Tp} {c : Cfg} {Φ : Fns} {k : Nat} {A : Around} {s s' : Shared} {κ κ' : Addr → Col} {γ γ' : Nat → Addr} {σ σ' : Sto} {n : Nat}
theorem gettok_ok {N : Addr} {mN : Str → Option Value} (X : LexTop T N mN) (O : TopOk T c) (hit : c.glob "iter" = some (.bi "iter")) {f : Addr} (R : ReadFn T f) {a : Addr} {fd : FuncData} (D : FdAt T.h₀ a fd (bodyOf (methAt pw ci 2)) ["self"]) (hclo : fd.closure = []) (hsc : fd.scope = scopeOf (methAt pw ci 2)) (hu : T.fnV "get_token" = some (.ref a))
    {args : List AV} {z : AV} {u : Value} {vs : List Value} (e : primGet args σ = some (z, σ')) (hA : AOk A (k + 4)) (I : Inv T s κ γ σ) (hu' : T.fnV "get_token" = some u) (r : RepL T s.heap κ γ σ.nx args vs) : wpAny (model T.prog T.w) A (call u vs) (EvP T s κ γ σ.nx z σ') NoE s := by
  rw [hu] at hu'
  injection hu' with hu'
  subst hu'
  unfold primGet at e
  split at e
  · rename_i l
    split at e
    · rename_i ln lf t ts hg
      simp only [Option.some.injEq, Prod.mk.injEq] at e
      obtain ⟨rfl, rfl⟩ := e
      exact get_pop X O D hclo hsc hg (hA.less (j := k + 1) (by omega)) I r
    · rename_i ln lf hg
      split at e
      · rename_i xs hgf
        cases hcs : signs? xs with
        | none => rw [hcs] at e; cases e
        | some cs =>
          rw [hcs] at e
          obtain ⟨rfl, hlt⟩ := signs_eq hcs
          simp only [Option.bind_eq_bind, Option.bind_some] at e
          split at e
          · rename_i hlen
            simp only [Option.some.injEq, Prod.mk.injEq] at e
            obtain ⟨rfl, rfl⟩ := e
            exact get_text X O hit R D hclo hsc hg hgf hlt (by omega) rfl hA I r
          · cases e
      · cases e
    · cases e
  · cases e
structure TextOk (T : Tp) (c : Cfg) (N : Addr) (mN : Str → Option Value) (pm : Value) : Prop where
  O : TopOk T c
  X : LexTop T N mN
  S : StreamTop T T.tabA pm
  sets : c.sets = false
  it : c.glob "iter" = some (.bi "iter")
  init : ∃ fi fd, FdAt T.h₀ fi fd (bodyOf (methAt pw ci 0)) ["self", "fp"] ∧ fd.scope = scopeOf (methAt pw ci 0) ∧ mN "__init__" = some (.ref fi)
  read : ∃ a fd, FdAt T.h₀ a fd (bodyOf (methAt pw ci 1)) ["self"] ∧ fd.closure = [] ∧ fd.scope = scopeOf (methAt pw ci 1) ∧ T.fnV "_read_char" = some (.ref a)
  get : ∃ a fd, FdAt T.h₀ a fd (bodyOf (methAt pw ci 2)) ["self"] ∧ fd.closure = [] ∧ fd.scope = scopeOf (methAt pw ci 2) ∧ T.fnV "get_token" = some (.ref a)
  push : ∃ a fd, FdAt T.h₀ a fd (bodyOf (methAt pw ci 3)) ["self", "token"] ∧ fd.closure = [] ∧ fd.scope = scopeOf (methAt pw ci 3) ∧ T.fnV "push_token" = some (.ref a)
  cls : T.fnV "_netrclex" = some (.ref T.C)
  defs : ∀ f d, Mine.defsOf pw f = some d → f ≠ "_law_stream" → DefOk T f d
theorem fns_ok {N : Addr} {mN : Str → Option Value} {pm : Value} (H : TextOk T c N mN pm) : ∀ n, FnsOk T (fns c (Mine.defsOf pw) n) (n + 6)
  | 0 => fun f args z σ σ' A s κ γ u vs e => by cases e
  | n + 1 => fun f args z σ σ' A s κ γ u vs e hA I hu r => by
    obtain ⟨ra, rfd, rD, rclo, rsc, ru⟩ := H.read
    obtain ⟨ga, gfd, gD, gclo, gsc, gu⟩ := H.get
    obtain ⟨pa, pfd, pD, pclo, psc, pu⟩ := H.push
    obtain ⟨fi, ifd, iD, isc, imN⟩ := H.init
    have hrc : ∀ {A : Around} {s : Shared} {κ : Addr → Col} {γ : Nat → Addr} {σ σ' : Sto} {z : AV} {vs : List Value} {args : List AV}, primRead args σ = some (z, σ') → AOk A 2 → Inv T s κ γ σ → RepL T s.heap κ γ σ.nx args vs →
        codeAny (model T.prog T.w) A (.call (.ref ra) ⟨vs, []⟩) (CallR (EvP T s κ γ σ.nx z σ')) s := fun e hA I r => read_code (k := 0) H.X H.O H.S.objs rD rclo rsc ru e hA I ru r
    have R : ReadFn T ra := ⟨ru, let ⟨o, h1, _, h3⟩ := rD.obj; ⟨o, h1, _, h3⟩, hrc⟩
    unfold fns at e
    split at e
    · rename_i hf; subst hf
      exact gettok_ok (k := n + 3) H.X H.O H.it R gD gclo gsc gu e hA I hu r
    · split at e
      · rename_i hf; subst hf
        exact push_ok (k := n + 6) H.X H.O pD pclo psc pu e hA I hu r
      · split at e
        · rename_i hf; subst hf
          rw [ru] at hu
          injection hu with hu
          subst hu
          exact call_code (hrc e (hA.less (by omega)) I r)
        · split at e
          · rename_i hf; subst hf
            split at e
            · rename_i l
              split at e
              · rename_i h0
                split at e
                · rename_i hl
                  simp only [Option.some.injEq, Prod.mk.injEq] at e
                  obtain ⟨rfl, rfl⟩ := e
                  obtain ⟨v1, us, rfl, r1, hus⟩ := r
                  rw [show us = [] from hus]
                  exact stream_ok (k := n + 6) H.S hA I rfl h0 hl.2 hl.1 hu r1
                · cases e
              · cases e
            · cases e
          · split at e
            · rename_i hf; subst hf
              split at e
              · rename_i l
                simp only [Option.some.injEq, Prod.mk.injEq] at e
                obtain ⟨rfl, rfl⟩ := e
                obtain ⟨v1, us, rfl, r1, hus⟩ := r
                rw [show us = [] from hus]
                rw [H.cls] at hu
                injection hu with hu
                subst hu
                exact netrclex_ok (k := n + 5) H.X iD isc imN hA I r1
              · cases e
            · rename_i h1 h2 h3 h4 h5
              split at e
              · rename_i d hd
                exact def_ok (k := n + 6) H.O (fns_ok H n) (setNode_none H.sets) (H.defs _ _ hd h4) e hA I hu r
              · cases e
end
end Mine
set_option maxRecDepth 100000
namespace Mine
open PySem PySem.W PyProof.Rows
set_option maxHeartbeats 8000000 in
open_top hd02 for PySem.Challenge.rw_ph0119_02
end Mine
set_option maxRecDepth 100000
namespace Mine
open PySem PySem.W PyProof.Rows
/-- a written-out namespace -/
def nsK (K : Frag) (a : Addr) (x : Str) : Option Value := (nsIn K a x).getD none
def nsOk (K : Frag) (a : Addr) : Bool := match K.lookup a with
  | some ⟨_, _, .dict es _, _⟩ => es.toList.all fun e => match e.key with
    | .str _ _ => true
    | _ => false
  | _ => false
theorem ns_of_K {K : Frag} {h : Heap} {a : Addr} (X : K.In h) (e : nsOk K a = true) : h.Ns a (nsK K a) := by
  unfold nsOk at e
  split at e
  · rename_i c d es n sl q
    refine ⟨_, es, n, X _ _ q, rfl, fun x hx => ?_, fun name => ?_⟩
    · have := List.all_eq_true.mp e x (Array.mem_def.mp hx)
      split at this
      · rename_i s t hk; exact ⟨s, t, hk⟩
      · cases this
    · unfold nsFind findBy nsK nsIn
      rw [q, ← Array.find?_toList]
      simp only
      cases hf : es.toList.find? (fun e => e.key.isStr name) with
      | some x => rfl
      | none => simp only [Option.map_none]; split <;> rfl
  · cases e
def codeOk (K : Frag) (c : Addr) (q : Str) : Bool := match K.lookup c with
  | some ⟨_, _, .fields vs, _⟩ => (match (vs[1]? : Option Value) with
    | some (.str s _) => s == q
    | _ => false)
  | _ => false
theorem codeRec_of {K : Frag} {h : Heap} {c : Addr} {q : Str} (X : K.In h) (e : codeOk K c q = true) : h.CodeRec (.ref c) q := by
  unfold codeOk at e
  split at e
  · rename_i vs n hk
    split at e
    · rename_i s t hv
      have := beq_iff_eq.mp e
      subst this
      exact ⟨c, _, vs, t, rfl, X _ _ hk, rfl, hv⟩
    · cases e
  · cases e
def stName : Stmt → Option Str
  | .Assign [.Name n _] (.Constant (.int _) _ _) _ => some n
  | .FunctionDef n .. => some n
  | .ClassDef n .. => some n
  | _ => none
def globNames (p : Program) : List Str := p.main.body.filterMap stName ++ biNames
theorem const_name {p : Program} {x : Str} {v : AV} (h : constOf p x = some v) : x ∈ p.main.body.filterMap stName := by
  unfold constOf at h
  obtain ⟨st, hst, e⟩ := List.exists_of_findSome?_eq_some h
  refine List.mem_filterMap.mpr ⟨st, hst, ?_⟩
  split at e
  · split at e
    · rename_i q; subst q; rfl
    · cases e
  · split at e
    · rename_i q; subst q; rfl
    · cases e
  · split at e
    · rename_i q; subst q; rfl
    · cases e
  · cases e
theorem glob_name {p : Program} {x : Str} {v : AV} (h : globOf p x = some v) (hx : x ≠ "EXACT_TOKEN_TYPES") : x ∈ globNames p := by
  unfold globOf at h
  rw [if_neg hx] at h
  split at h
  · rename_i v' hc; exact List.mem_append_left _ (const_name hc)
  · split at h
    · rename_i hb; exact List.mem_append_right _ (List.contains_iff_mem.mp hb)
    · cases h
theorem lookup_mem : ∀ {l : List (Str × Addr)} {f : Str} {a : Addr}, l.lookup f = some a → (f, a) ∈ l
  | [], _, _, e => by cases e
  | (g, b) :: r, f, a, e => by
    rw [List.lookup_cons] at e
    cases hb : f == g with
    | true => rw [hb] at e; injection e with e; subst e; rw [beq_iff_eq.mp hb]; exact .head _
    | false => rw [hb] at e; exact .tail _ (lookup_mem e)
/-- the addresses of the text's own functions -/
def fnVof (l : List (Str × Addr)) (f : Str) : Option Value := (l.lookup f).map .ref
def chkG (p : Program) (K : Frag) (l : List (Str × Addr)) (x : Str) : Bool := x == "EXACT_TOKEN_TYPES" || match globOf p x with
  | none => true
  | some (.int i) => (match nsK K mainGlobals x with
    | some (.int j _) => i == j
    | _ => false)
  | some (.glob n) => (match nsK K mainGlobals x with
    | some (.ref a) => n == x && l.lookup x == some a
    | _ => false)
  | some (.bi f) => (match nsK K mainGlobals x with
    | none => true
    | _ => false) && x != "__name__" && (match bootBuiltins x, biV f with
    | some (.builtin a), some (.builtin b) => a == b
    | some (.type a), some (.type b) => a == b
    | _, _ => false)
  | _ => false
section
variable {T : Tp}
theorem glob_rep {p : Program} {K : Frag} {l : List (Str × Addr)} {mb : Str → Option Value} (hT : T.fnV = fnVof l) (hb : ∀ x : Str, x ≠ "__name__" → mb x = bootBuiltins x) (hc : (globNames p).all (chkG p K l) = true)
    (hE : ∀ v, globOf p "EXACT_TOKEN_TYPES" = some v → ∃ u, nsK K mainGlobals "EXACT_TOKEN_TYPES" = some u ∧ ∀ s κ γ σ, Inv T s κ γ σ → Rep T s.heap κ γ σ.nx v u) {x : Str} {v : AV} (h : globOf p x = some v) :
    ∃ u, (nsK K mainGlobals x = some u ∨ (nsK K mainGlobals x = none ∧ mb x = some u)) ∧ ∀ s κ γ σ, Inv T s κ γ σ → Rep T s.heap κ γ σ.nx v u := by
  by_cases hx : x = "EXACT_TOKEN_TYPES"
  · subst hx
    obtain ⟨u, h1, h2⟩ := hE v h
    exact ⟨u, .inl h1, h2⟩
  have e := List.all_eq_true.mp hc x (glob_name h hx)
  have hx' : (x == "EXACT_TOKEN_TYPES") = false := by simpa using hx
  unfold chkG at e
  rw [hx', h, Bool.false_or] at e
  split at e
  · rename_i q; cases q
  · rename_i i q
    injection q with q; subst q
    split at e
    · rename_i j t hn
      have := beq_iff_eq.mp e
      subst this
      exact ⟨_, .inl hn, fun _ _ _ _ _ => ⟨t, rfl⟩⟩
    · cases e
  · rename_i n q
    injection q with q; subst q
    split at e
    · rename_i a hn
      simp only [Bool.and_eq_true, beq_iff_eq] at e
      refine ⟨_, .inl hn, fun _ _ _ _ _ => ?_⟩
      show T.fnV n = some (.ref a)
      rw [hT, e.1, fnVof, e.2]; rfl
    · cases e
  · rename_i f q
    injection q with q; subst q
    simp only [Bool.and_eq_true, bne_iff_ne, ne_eq] at e
    obtain ⟨⟨e1, e2⟩, e3⟩ := e
    have hn : nsK K mainGlobals x = none := by
      split at e1
      · rename_i q; exact q
      · cases e1
    split at e3
    · rename_i a b h1 h2
      have := beq_iff_eq.mp e3
      subst this
      exact ⟨_, .inr ⟨hn, (hb x e2).trans h1⟩, fun _ _ _ _ _ => h2⟩
    · rename_i a b h1 h2
      have := beq_iff_eq.mp e3
      subst this
      exact ⟨_, .inr ⟨hn, (hb x e2).trans h1⟩, fun _ _ _ _ _ => h2⟩
    · cases e3
  · cases e
def defNames (p : Program) : List Str := p.main.body.filterMap fun st => match st with
  | .FunctionDef n .. => some n
  | _ => none
theorem def_name {p : Program} {f : Str} {d : Def} (h : Mine.defsOf p f = some d) : f ∈ defNames p := by
  unfold Mine.defsOf at h
  obtain ⟨st, hst, e⟩ := List.exists_of_findSome?_eq_some h
  refine List.mem_filterMap.mpr ⟨st, hst, ?_⟩
  split at e
  · split at e
    · rename_i q; subst q; rfl
    · cases e
  · cases e
theorem cw_chk {K : Frag} {l : List (Str × Addr)} (X : K.In T.h₀) (hT : T.fnV = fnVof l) (hc : (l.all fun p => p.2 == T.C || match K.lookup p.2 with
    | some ⟨_, _, .func _, _⟩ => true
    | _ => false) = true) {f : Str} {u : Value} (h : T.fnV f = some u) : u = .ref T.C ∨ ∃ a o fd, u = .ref a ∧ T.h₀.get? a = some o ∧ o.data = .func fd := by
  rw [hT, fnVof, Option.map_eq_some_iff] at h
  obtain ⟨a, h1, rfl⟩ := h
  have e := List.all_eq_true.mp hc (f, a) (lookup_mem h1)
  simp only [Bool.or_eq_true, beq_iff_eq] at e
  rcases e with rfl | e
  · exact .inl rfl
  · split at e
    · rename_i q; exact .inr ⟨a, _, _, rfl, X _ _ q, rfl⟩
    · cases e
/-- a written-out dict of strs to ints -/
def dictEs (P : Params) : List Str → List (Tok × Int × Tok) → List DictEntry
  | k :: ks, (t, i, u) :: r => { hash := PyData.keyHash P k, key := .str k t, val := .int i u } :: dictEs P ks r
  | _, _ => []
theorem dict_pairs {prog : Program} {w : World} : ∀ (ks : List Str) (r : List (Tok × Int × Tok)), ks.length = r.length →
    (∀ e ∈ dictEs w.params ks r, ∃ k, (PySem.strKind prog w).is k e.key = true ∧ e.hash = (PySem.strKind prog w).hash k) ∧ Pairs (PySem.strKind prog w) (dictEs w.params ks r) (ks.zip (r.map fun x => Value.int x.2.1 x.2.2))
  | [], [], _ => ⟨fun e he => by simp [dictEs] at he, .nil⟩
  | k :: ks, (t, i, u) :: r, h => by
    obtain ⟨h1, h2⟩ := dict_pairs (prog := prog) (w := w) ks r (by simpa using h)
    have hk : Value.isStrOf k (.str k t) = true := by simp [Value.isStrOf]
    refine ⟨fun e he => ?_, .cons hk rfl h2⟩
    rcases List.mem_cons.mp he with rfl | he
    · exact ⟨k, hk, rfl⟩
    · exact h1 e he
theorem ints_rep {h : Heap} {κ : Addr → Col} {γ : Nat → Addr} {n : Nat} : ∀ (r : List (Tok × Int × Tok)), RepL T h κ γ n (r.map fun x => AV.int x.2.1) (r.map fun x => Value.int x.2.1 x.2.2)
  | [] => rfl
  | (_, _, u) :: r => ⟨_, _, rfl, ⟨u, rfl⟩, ints_rep r⟩
theorem dict_rep {a : Addr} {ep : Nat} {ks : List Str} {r : List (Tok × Int × Tok)} (ho : T.h₀.get? a = some { cls := .type "dict", data := .dict (dictEs T.w.params ks r).toArray ep }) (hl : ks.length = r.length) (hn : ks.Nodup) (ha : (a == sysModules) = false)
    {s : Shared} {κ : Addr → Col} {γ : Nat → Addr} {σ : Sto} (I : Inv T s κ γ σ) : Rep T s.heap κ γ σ.nx (.dict (.ks ks) (r.map fun x => AV.int x.2.1)) (.ref a) := by
  obtain ⟨h1, h2⟩ := dict_pairs (prog := T.prog) (w := T.w) ks r hl
  refine ⟨a, r.map fun x => Value.int x.2.1 x.2.2, rfl, (I.base _ _ ho).2, ha, ⟨by simpa using hl, _, _, _, (I.base _ _ ho).1, ⟨rfl, rfl, rfl⟩, rfl, fun e he => h1 e (by simpa using he), by simpa using h2, ?_⟩, ints_rep r⟩
  rw [show ((ks.zip (r.map fun x => Value.int x.2.1 x.2.2)).map (·.1)) = ks from List.map_fst_zip (by simp [hl])]
  exact hn
end
end Mine
set_option maxRecDepth 100000
namespace Mine
open PySem PySem.W PyProof.Rows
def fdOf (K : Frag) (a : Addr) : FuncData := match K.lookup a with
  | some ⟨_, _, .func fd, _⟩ => fd
  | _ => default
theorem fdAt_of {K : Frag} {h : Heap} (X : K.In h) {a c : Addr} {fd : FuncData} {body : List Stmt} {ps : List Str} (ho : K.lookup a = some ⟨.type "function", none, .func fd, #[]⟩) (hc : fd.code = .ref c) (hq : codeOk K c fd.qualname = true)
    (hb : fd.body = .stmts body) (hg : fd.globals = mainGlobals) (hbi : fd.builtins = builtinsNs) (hco : fd.scope.isCoroutine = false) (hgen : fd.scope.isGenerator = false) (hk : fd.scope.kind = .function)
    (hbind : ∀ vs : List Value, vs.length = ps.length → bindArgs fd ⟨vs, []⟩ = pure (ps.zip vs)) (hloc : (ps.all fun x => match fd.scope.names.lookup x with | some .local => true | _ => false) = true)
    (hcell : (fd.scope.names.all fun x => match x.2 with | .cell => false | _ => true) = true) (hnd : ps.Nodup) : FdAt h a fd body ps where
  obj := ⟨_, X _ _ ho, rfl, rfl⟩
  code := hc ▸ codeRec_of X hq
  body := hb
  glo := hg
  bui := hbi
  co := hco
  gen := hgen
  kind := hk
  binds := hbind
  loc x hx := by
    have := List.all_eq_true.mp hloc x hx
    split at this
    · rename_i q; exact q
    · cases this
  nocell x hx := by
    have := List.all_eq_true.mp hcell x hx
    intro q
    rw [q] at this
    cases this
  nodup := hnd
theorem defOk_of {T : Tp} {K : Frag} (X : K.In T.h₀) {f : Str} {d : Def} {params : Arguments} {pm doc : Value} (a c : Addr) (hV : T.fnV f = some (.ref a)) (hk : K.lookup a = some ⟨.type "function", none, .func (Calls.docDef f params d.body d.scope pm (.ref c) doc), #[]⟩) (hc : codeOk K c f = true)
    (hb : ∀ vs : List Value, vs.length = d.params.length → bindArgs (Calls.docDef f params d.body d.scope pm (.ref c) doc) ⟨vs, []⟩ = pure (d.params.zip vs)) (hco : d.scope.isCoroutine = false) (hgen : d.scope.isGenerator = false) (hsc : okScope d.scope = true)
    (hfree : (d.scope.names.all fun x => match x.2 with | .free => false | _ => true) = true) (hpar : (d.params.all fun x => match d.scope.names.lookup x with | some .local => true | some .cell => true | _ => false) = true) (hnd : d.params.Nodup) : DefOk T f d where
  fn := ⟨a, _, pm, _, doc, params, hV, X _ _ hk, rfl, codeRec_of X hc, hb⟩
  co := hco
  gen := hgen
  sc := hsc
  nofree x hx := by
    have := List.all_eq_true.mp hfree x hx
    intro q
    rw [q] at this
    cases this
  par x hx := by
    have := List.all_eq_true.mp hpar x hx
    split at this
    · rename_i q; exact .inl q
    · rename_i q; exact .inr q
    · cases this
  nodup := hnd
def fl02 : List (Str × Addr) := [("_netrclex", 52), ("ISTERMINAL", 66), ("ISNONTERMINAL", 73), ("ISEOF", 80), ("_law_stream", 87), ("_law_written", 92), ("_law_symbol", 99), ("_law_answers", 106), ("_law_there", 113), ("_law_due", 118), ("law", 123),
  ("_read_char", 35), ("get_token", 42), ("push_token", 49)]
noncomputable abbrev K02 (P : Params) : Frag := hd02.heap_39 P
def tp02 (w : World) (h : Heap) : Tp := { prog := pw, w := w, h₀ := h, fnV := fnVof fl02, C := 52, tabA := 82, StreamObjs := StreamIs pw si }
abbrev cfg02 : Cfg := cfg false sk2 pw mu2 fz2
section
variable {w : World} {h : Heap} {mb : Str → Option Value}
theorem lex02 (X : (K02 w.params).In h) (hlim : h.NoLimit) : LexTop (tp02 w h) 51 (nsK (K02 w.params) 51) where
  cls := ⟨⟨"_netrclex", "_netrclex", [.type "object"], [], [], none, none, none, none, some (.str "_netrclex" 189), some (.str "_netrclex" 197), some (.bool true), X 52 _ (by kernel_rfl)⟩, ns_of_K X (by kernel_rfl)⟩
  nolimit := hlim
  no x hx := by
    simp only [List.mem_cons, List.not_mem_nil, or_false] at hx
    rcases hx with rfl | rfl | rfl | rfl | rfl | rfl | rfl <;> kernel_rfl
  meth x hx := by
    simp only [List.mem_cons, List.not_mem_nil, or_false] at hx
    rcases hx with rfl | rfl | rfl
    · exact ⟨42, fdOf (K02 w.params) 42, ⟨.type "function", none, .func (fdOf (K02 w.params) 42), #[]⟩, by kernel_rfl, by kernel_rfl, X 42 _ (by kernel_rfl), rfl, rfl⟩
    · exact ⟨49, fdOf (K02 w.params) 49, ⟨.type "function", none, .func (fdOf (K02 w.params) 49), #[]⟩, by kernel_rfl, by kernel_rfl, X 49 _ (by kernel_rfl), rfl, rfl⟩
    · exact ⟨35, fdOf (K02 w.params) 35, ⟨.type "function", none, .func (fdOf (K02 w.params) 35), #[]⟩, by kernel_rfl, by kernel_rfl, X 35 _ (by kernel_rfl), rfl, rfl⟩
theorem init02 (X : (K02 w.params).In h) : FdAt h 28 (fdOf (K02 w.params) 28) (bodyOf (methAt pw ci 0)) ["self", "fp"] :=
  fdAt_of X (c := 27) (by kernel_rfl) (by kernel_rfl) (by kernel_rfl) (by kernel_rfl) (by kernel_rfl) (by kernel_rfl) (by kernel_rfl) (by kernel_rfl) (by kernel_rfl)
    (fun vs hl => match vs, hl with | [a, b], _ => by kernel_rfl) (by kernel_rfl) (by kernel_rfl) (by decide)
theorem read02 (X : (K02 w.params).In h) : FdAt h 35 (fdOf (K02 w.params) 35) (bodyOf (methAt pw ci 1)) ["self"] :=
  fdAt_of X (c := 34) (by kernel_rfl) (by kernel_rfl) (by kernel_rfl) (by kernel_rfl) (by kernel_rfl) (by kernel_rfl) (by kernel_rfl) (by kernel_rfl) (by kernel_rfl)
    (fun vs hl => match vs, hl with | [a], _ => by kernel_rfl) (by kernel_rfl) (by kernel_rfl) (by decide)
theorem get02 (X : (K02 w.params).In h) : FdAt h 42 (fdOf (K02 w.params) 42) (bodyOf (methAt pw ci 2)) ["self"] :=
  fdAt_of X (c := 41) (by kernel_rfl) (by kernel_rfl) (by kernel_rfl) (by kernel_rfl) (by kernel_rfl) (by kernel_rfl) (by kernel_rfl) (by kernel_rfl) (by kernel_rfl)
    (fun vs hl => match vs, hl with | [a], _ => by kernel_rfl) (by kernel_rfl) (by kernel_rfl) (by decide)
theorem push02 (X : (K02 w.params).In h) : FdAt h 49 (fdOf (K02 w.params) 49) (bodyOf (methAt pw ci 3)) ["self", "token"] :=
  fdAt_of X (c := 48) (by kernel_rfl) (by kernel_rfl) (by kernel_rfl) (by kernel_rfl) (by kernel_rfl) (by kernel_rfl) (by kernel_rfl) (by kernel_rfl) (by kernel_rfl)
    (fun vs hl => match vs, hl with | [a, b], _ => by kernel_rfl) (by kernel_rfl) (by kernel_rfl) (by decide)
theorem len1 {α : Type} {vs : List α} (h : vs.length = 1) : ∃ a, vs = [a] := match vs, h with | [a], _ => ⟨a, rfl⟩
theorem len2 {α : Type} {vs : List α} (h : vs.length = 2) : ∃ a b, vs = [a, b] := match vs, h with | [a, b], _ => ⟨a, b, rfl⟩
theorem len3 {α : Type} {vs : List α} (h : vs.length = 3) : ∃ a b c, vs = [a, b, c] := match vs, h with | [a, b, c], _ => ⟨a, b, c, rfl⟩
theorem len4 {α : Type} {vs : List α} (h : vs.length = 4) : ∃ a b c d, vs = [a, b, c, d] := match vs, h with | [a, b, c, d], _ => ⟨a, b, c, d, rfl⟩
def defOf (p : Program) (i : Nat) : Def := ⟨(argsOf (defAt p i)).args.map (·.arg), bodyOf (defAt p i), scopeOf (defAt p i)⟩
theorem d02_54 (X : (K02 w.params).In h) : DefOk (tp02 w h) "ISTERMINAL" (defOf pw 54) :=
  defOk_of (T := tp02 w h) X (params := argsOf (defAt pw 54)) (pm := (fdOf (K02 w.params) 66).pyModule) (doc := (fdOf (K02 w.params) 66).doc) 66 65 (by kernel_rfl) (by kernel_rfl) (by kernel_rfl)
    (fun vs hl => by obtain ⟨a, rfl⟩ := len1 (hl.trans (by kernel_rfl)); kernel_rfl) (by kernel_rfl) (by kernel_rfl) (by kernel_rfl) (by kernel_rfl) (by kernel_rfl) (by decide)
theorem d02_55 (X : (K02 w.params).In h) : DefOk (tp02 w h) "ISNONTERMINAL" (defOf pw 55) :=
  defOk_of (T := tp02 w h) X (params := argsOf (defAt pw 55)) (pm := (fdOf (K02 w.params) 73).pyModule) (doc := (fdOf (K02 w.params) 73).doc) 73 72 (by kernel_rfl) (by kernel_rfl) (by kernel_rfl)
    (fun vs hl => by obtain ⟨a, rfl⟩ := len1 (hl.trans (by kernel_rfl)); kernel_rfl) (by kernel_rfl) (by kernel_rfl) (by kernel_rfl) (by kernel_rfl) (by kernel_rfl) (by decide)
theorem d02_56 (X : (K02 w.params).In h) : DefOk (tp02 w h) "ISEOF" (defOf pw 56) :=
  defOk_of (T := tp02 w h) X (params := argsOf (defAt pw 56)) (pm := (fdOf (K02 w.params) 80).pyModule) (doc := (fdOf (K02 w.params) 80).doc) 80 79 (by kernel_rfl) (by kernel_rfl) (by kernel_rfl)
    (fun vs hl => by obtain ⟨a, rfl⟩ := len1 (hl.trans (by kernel_rfl)); kernel_rfl) (by kernel_rfl) (by kernel_rfl) (by kernel_rfl) (by kernel_rfl) (by kernel_rfl) (by decide)
theorem d02_59 (X : (K02 w.params).In h) : DefOk (tp02 w h) "_law_written" (defOf pw 59) :=
  defOk_of (T := tp02 w h) X (params := argsOf (defAt pw 59)) (pm := (fdOf (K02 w.params) 92).pyModule) (doc := (fdOf (K02 w.params) 92).doc) 92 91 (by kernel_rfl) (by kernel_rfl) (by kernel_rfl)
    (fun vs hl => by obtain ⟨a, b, c, rfl⟩ := len3 (hl.trans (by kernel_rfl)); kernel_rfl) (by kernel_rfl) (by kernel_rfl) (by kernel_rfl) (by kernel_rfl) (by kernel_rfl) (by decide)
theorem d02_60 (X : (K02 w.params).In h) : DefOk (tp02 w h) "_law_symbol" (defOf pw 60) :=
  defOk_of (T := tp02 w h) X (params := argsOf (defAt pw 60)) (pm := (fdOf (K02 w.params) 99).pyModule) (doc := (fdOf (K02 w.params) 99).doc) 99 98 (by kernel_rfl) (by kernel_rfl) (by kernel_rfl)
    (fun vs hl => by obtain ⟨a, b, rfl⟩ := len2 (hl.trans (by kernel_rfl)); kernel_rfl) (by kernel_rfl) (by kernel_rfl) (by kernel_rfl) (by kernel_rfl) (by kernel_rfl) (by decide)
theorem d02_61 (X : (K02 w.params).In h) : DefOk (tp02 w h) "_law_answers" (defOf pw 61) :=
  defOk_of (T := tp02 w h) X (params := argsOf (defAt pw 61)) (pm := (fdOf (K02 w.params) 106).pyModule) (doc := (fdOf (K02 w.params) 106).doc) 106 105 (by kernel_rfl) (by kernel_rfl) (by kernel_rfl)
    (fun vs hl => by obtain ⟨a, b, c, d, rfl⟩ := len4 (hl.trans (by kernel_rfl)); kernel_rfl) (by kernel_rfl) (by kernel_rfl) (by kernel_rfl) (by kernel_rfl) (by kernel_rfl) (by decide)
theorem d02_62 (X : (K02 w.params).In h) : DefOk (tp02 w h) "_law_there" (defOf pw 62) :=
  defOk_of (T := tp02 w h) X (params := argsOf (defAt pw 62)) (pm := (fdOf (K02 w.params) 113).pyModule) (doc := (fdOf (K02 w.params) 113).doc) 113 112 (by kernel_rfl) (by kernel_rfl) (by kernel_rfl)
    (fun vs hl => by obtain ⟨a, b, c, rfl⟩ := len3 (hl.trans (by kernel_rfl)); kernel_rfl) (by kernel_rfl) (by kernel_rfl) (by kernel_rfl) (by kernel_rfl) (by kernel_rfl) (by decide)
theorem d02_63 (X : (K02 w.params).In h) : DefOk (tp02 w h) "_law_due" (defOf pw 63) :=
  defOk_of (T := tp02 w h) X (params := argsOf (defAt pw 63)) (pm := (fdOf (K02 w.params) 118).pyModule) (doc := (fdOf (K02 w.params) 118).doc) 118 117 (by kernel_rfl) (by kernel_rfl) (by kernel_rfl)
    (fun vs hl => by obtain ⟨a, b, rfl⟩ := len2 (hl.trans (by kernel_rfl)); kernel_rfl) (by kernel_rfl) (by kernel_rfl) (by kernel_rfl) (by kernel_rfl) (by kernel_rfl) (by decide)
theorem d02_64 (X : (K02 w.params).In h) : DefOk (tp02 w h) "law" (defOf pw 64) :=
  defOk_of (T := tp02 w h) X (params := argsOf (defAt pw 64)) (pm := (fdOf (K02 w.params) 123).pyModule) (doc := (fdOf (K02 w.params) 123).doc) 123 122 (by kernel_rfl) (by kernel_rfl) (by kernel_rfl)
    (fun vs hl => by obtain ⟨a, rfl⟩ := len1 (hl.trans (by kernel_rfl)); kernel_rfl) (by kernel_rfl) (by kernel_rfl) (by kernel_rfl) (by kernel_rfl) (by kernel_rfl) (by decide)
theorem defs02 (X : (K02 w.params).In h) (f : Str) (d : Def) (hd : Mine.defsOf pw f = some d) (hne : f ≠ "_law_stream") : DefOk (tp02 w h) f d := by
  have hm := def_name hd
  rw [(by kernel_rfl : defNames pw = (["ISTERMINAL", "ISNONTERMINAL", "ISEOF", "_law_stream", "_law_written", "_law_symbol", "_law_answers", "_law_there", "_law_due", "law"] : List Str))] at hm
  simp only [List.mem_cons, List.not_mem_nil, or_false] at hm
  rcases hm with rfl | rfl | rfl | rfl | rfl | rfl | rfl | rfl | rfl | rfl
  · rw [show Mine.defsOf pw "ISTERMINAL" = some (defOf pw 54) from by kernel_rfl] at hd
    injection hd with hd
    subst hd
    exact d02_54 X
  · rw [show Mine.defsOf pw "ISNONTERMINAL" = some (defOf pw 55) from by kernel_rfl] at hd
    injection hd with hd
    subst hd
    exact d02_55 X
  · rw [show Mine.defsOf pw "ISEOF" = some (defOf pw 56) from by kernel_rfl] at hd
    injection hd with hd
    subst hd
    exact d02_56 X
  · exact absurd rfl hne
  · rw [show Mine.defsOf pw "_law_written" = some (defOf pw 59) from by kernel_rfl] at hd
    injection hd with hd
    subst hd
    exact d02_59 X
  · rw [show Mine.defsOf pw "_law_symbol" = some (defOf pw 60) from by kernel_rfl] at hd
    injection hd with hd
    subst hd
    exact d02_60 X
  · rw [show Mine.defsOf pw "_law_answers" = some (defOf pw 61) from by kernel_rfl] at hd
    injection hd with hd
    subst hd
    exact d02_61 X
  · rw [show Mine.defsOf pw "_law_there" = some (defOf pw 62) from by kernel_rfl] at hd
    injection hd with hd
    subst hd
    exact d02_62 X
  · rw [show Mine.defsOf pw "_law_due" = some (defOf pw 63) from by kernel_rfl] at hd
    injection hd with hd
    subst hd
    exact d02_63 X
  · rw [show Mine.defsOf pw "law" = some (defOf pw 64) from by kernel_rfl] at hd
    injection hd with hd
    subst hd
    exact d02_64 X
def ks02 : List Str := match globOf pw "EXACT_TOKEN_TYPES" with
  | some (.dict (.ks ks) _) => ks
  | _ => []
noncomputable def rs02 (P : Params) : List (Tok × Int × Tok) := match (K02 P).lookup 57 with
  | some ⟨_, _, .dict es _, _⟩ => es.toList.map fun e => match e.key, e.val with
    | .str _ t, .int i u => (t, i, u)
    | _, _ => default
  | _ => []
theorem exact02 (X : (K02 w.params).In h) (v : AV) (e : globOf pw "EXACT_TOKEN_TYPES" = some v) : ∃ u, nsK (K02 w.params) mainGlobals "EXACT_TOKEN_TYPES" = some u ∧ ∀ s κ γ σ, Inv (tp02 w h) s κ γ σ → Rep (tp02 w h) s.heap κ γ σ.nx v u := by
  have e2 : globOf pw "EXACT_TOKEN_TYPES" = some (.dict (.ks ks02) ((rs02 w.params).map fun x => AV.int x.2.1)) := by kernel_rfl
  rw [e2] at e
  injection e with e
  subst e
  exact ⟨.ref 57, by kernel_rfl, fun s κ γ σ I => dict_rep (T := tp02 w h) (ep := 48) (X 57 _ (by kernel_rfl)) (by kernel_rfl) (by decide +kernel) (by decide) I⟩
theorem stream02 (X : (K02 w.params).In h) (hlim : h.NoLimit) (hbm : h.BuiltinsAt (nsK (K02 w.params) mainGlobals) 82) (hcd : CodeHd h 86 82) : StreamTop (tp02 w h) 82 (fdOf (K02 w.params) 87).pyModule where
  fn := ⟨87, ⟨.type "function", none, .func (fdOf (K02 w.params) 87), #[]⟩, .ref 86, (fdOf (K02 w.params) 87).doc, 86, by kernel_rfl, X 87 _ (by kernel_rfl), by kernel_rfl, codeRec_of X (by kernel_rfl), rfl, hcd⟩
  top := ⟨_, ns_of_K X (by kernel_rfl), hbm⟩
  nolimit := hlim
  objs := rfl
theorem topOk02 (X : (K02 w.params).In h) (hlim : h.NoLimit) (hsys : h.get? sysModules ≠ none) (hb : h.Ns builtinsNs mb) (hbb : ∀ x : Str, x ≠ "__name__" → mb x = bootBuiltins x) : TopOk (tp02 w h) cfg02 where
  sys := hsys
  nolimit := hlim
  ns := ⟨_, mb, ns_of_K X (by kernel_rfl), hb, fun x v e => glob_rep (T := tp02 w h) (l := fl02) rfl hbb (by kernel_rfl) (exact02 X) e⟩
  meth := fun I hg hn hQ => lex_meth (lex02 X hlim) I hg hn hQ
  attr := fun I e hQ => lex_attr (lex02 X hlim) I e hQ
  cw := fun hu hQ hp => cw_ok (lex02 X hlim).cls (cw_chk (T := tp02 w h) (l := fl02) X rfl (by kernel_rfl) hu) hQ hp
theorem text02 (X : (K02 w.params).In h) (hlim : h.NoLimit) (hsys : h.get? sysModules ≠ none) (hb : h.Ns builtinsNs mb) (hbb : ∀ x : Str, x ≠ "__name__" → mb x = bootBuiltins x) (hbm : h.BuiltinsAt (nsK (K02 w.params) mainGlobals) 82) (hcd : CodeHd h 86 82) :
    TextOk (tp02 w h) cfg02 51 (nsK (K02 w.params) 51) (fdOf (K02 w.params) 87).pyModule where
  O := topOk02 X hlim hsys hb hbb
  X := lex02 X hlim
  S := stream02 X hlim hbm hcd
  sets := rfl
  it := by kernel_rfl
  init := ⟨28, _, init02 X, by kernel_rfl, by kernel_rfl⟩
  read := ⟨35, _, read02 X, by kernel_rfl, by kernel_rfl, by kernel_rfl⟩
  get := ⟨42, _, get02 X, by kernel_rfl, by kernel_rfl, by kernel_rfl⟩
  push := ⟨49, _, push02 X, by kernel_rfl, by kernel_rfl, by kernel_rfl⟩
  cls := by kernel_rfl
  defs := defs02 X
end
end Mine
set_option maxRecDepth 100000
namespace Mine
open PySem PySem.W PyProof.Rows
def σ₀ : Sto := ⟨fun l => if l = 0 then some (.tab true) else none, 1⟩
theorem ints_repL {T : Tp} {h : Heap} {κ : Addr → Col} {γ : Nat → Addr} {n : Nat} : ∀ {vs : List Value} {zs : List Int}, IntsAre vs zs → RepL T h κ γ n (zs.map AV.int) vs
  | _, _, .nil => rfl
  | _, _, .cons _ t r => ⟨_, _, rfl, ⟨t, rfl⟩, ints_repL r⟩
theorem list_rep {T : Tp} {P : Params} {h : Heap} {κ : Addr → Col} {γ : Nat → Addr} {n : Nat} {la : Addr} {its : List Value} {zs : List Int} (hL : h.IsList la its.toArray) (hW : Well P h (.ref la) (ofPy (.list (zs.map PyData.int)))) (hI : IntsAre its zs) (hlen : zs.length ≤ 63)
    (hκ : ∀ a, h.get? la = some { cls := .type "list", data := .seq a } → κ la = .fz) : Rep T h κ γ n (.list (zs.map .int)) (.ref la) := by
  obtain ⟨o, e, hc, k, hd⟩ := hL
  obtain ⟨ys, hof⟩ : ∃ ys, ofPy (.list (zs.map PyData.int)) = .list ys := ⟨_, by rw [ofPy]⟩
  rw [hof] at hW
  cases hW with
  | list e2 _ =>
    have e3 := e
    rw [e2] at e3
    injection e3 with e3
    subst e3
    injection hd with hd1 hd2
    have hd1' := congrArg Array.toList hd1
    simp only at hd1'
    subst hd1' hd2
    exact ⟨la, _, _, rfl, hκ _ e, e, by simp; omega, ints_repL hI⟩
set_option maxHeartbeats 8000000 in
theorem law02_of (pure : ∀ zs : List Int, zs.length ≤ 63 → ∃ σ' b, fns cfg02 (Mine.defsOf pw) 10 "law" [.list (zs.map .int)] σ₀ = some (.bool true, σ') ∧ σ'.get 0 = some (.tab b)) : PySem.Challenge.rw_ph0119_02.Holds := by
  apply hd02
  k_fill
  intro w s₀ s₁ mg mb G Y fa o pm cd doc dV kV ho hd hcd hD hmg hg args vals as hpre hlay hrd hwl hlo
  have KX := km_in_of Y
  km_tabs Y
  have T := Ground.T G
  km_lay T hmg ho hd cd
  wrow_args hpre hlay hrd hwl hlo
  clear hd hD Y G
  rename List Int => zs
  rename s₁.heap.IsList _ _ => hL
  rename IntsAre _ _ => hI
  have hfa : fa = 123 := by
    have := mg_of KX T.g (n := "law") (v := .ref 123) (by kernel_rfl)
    have := hmg.symm.trans this
    injection this with this
    injection this
  subst hfa
  rename Well w.params s₁.heap _ _ => hW
  rename (hd02.heap_39 w.params).In s₁.heap => KX
  rename ¬ (_ < _) => hlen
  generalize hh : ghostOf s₁.heap [(86, 82)] = h₀
  have X' : (K02 w.params).In h₀ := hh ▸ ghost_K hT9 KX (by kernel_rfl)
  have hlim : h₀.NoLimit := by obtain ⟨mc, a, r⟩ := T.nolimit; exact ⟨mc, hh ▸ ghost_ns hT9 a, r⟩
  have hsys : h₀.get? sysModules ≠ none := by
    obtain ⟨mm, z, _⟩ := (T.seer (by kernel_rfl)).mods
    obtain ⟨o, _, _, e, _⟩ := ghost_ns hT9 z
    rw [← hh, e]
    exact fun q => by cases q
  have hbm : h₀.BuiltinsAt (nsK (K02 w.params) mainGlobals) 82 := by
    obtain ⟨bm, ob, e1, e2, e3, e4, e5, e6⟩ := T.bmain
    have e7 := mg_of KX T.g (n := "__builtins__") (v := .ref 4) (by kernel_rfl)
    rw [e7] at e1
    injection e1 with e1
    injection e1 with e1
    subst e1
    exact ⟨4, ob, by kernel_rfl, e2, by decide, by decide, hh ▸ ghost_get hT9 e3 (by rintro rfl; cases e4), e4, e5, e6⟩
  have hcdh : CodeHd h₀ 86 82 := hh ▸ (ghost_code hT9).1
  have TX := text02 X' hlim hsys (hh ▸ ghost_ns hT9 T.b) T.builtins hbm hcdh
  have hP : s₁.heap.get? 82 = some (tabObj #[]) := hT8 82 (by simp)
  have h82 : h₀.get? 82 = none := by rw [← hh]; exact hideAll_none _ (by simp)
  have hold : ∀ b o, h₀.get? b = some o → s₁.heap.get? b = some o := fun b o e => by rw [← hh] at e; exact of_hideAll _ e
  let κ : Addr → Col := fun a => if a = 82 then .ob 0 else .fz
  have I : Inv (tp02 w h₀) s₁ κ (fun _ => 82) σ₀ := by
    refine ⟨fun a o e => ⟨hold a o e, if_neg ?_⟩, fun l o e => ?_⟩
    · rintro rfl
      rw [show (tp02 w h₀).h₀ = h₀ from rfl, h82] at e
      cases e
    · by_cases hl : l = 0
      · subst hl
        injection e with e
        subst e
        exact ⟨Nat.zero_lt_one, rfl, if_pos rfl, #[], hP, fun _ => rfl⟩
      · rw [show σ₀.get l = none from if_neg hl] at e
        cases e
  obtain ⟨σ', b, hrun, hσ⟩ := pure zs (by omega)
  have hcall : (defOf pw 64).call cfg02 (fns cfg02 (Mine.defsOf pw) 9) [.list (zs.map .int)] σ₀ = some (.bool true, σ') := by
    unfold fns at hrun
    rw [if_neg (by decide), if_neg (by decide), if_neg (by decide), if_neg (by decide), if_neg (by decide), (by kernel_rfl : Mine.defsOf pw "law" = some (defOf pw 64))] at hrun
    exact hrun
  have hrep : Rep (tp02 w h₀) s₁.heap κ (fun _ => 82) σ₀.nx (.list (zs.map .int)) (.ref _) := list_rep hL hW hI (by omega) fun a e => if_neg fun q => by
    subst q
    rw [hP] at e
    injection e with e
    cases e
  refine enter_call (kn_post hT9 (fun _ _ => rfl) (codeAny_mono (def_code (k := 15) TX.O (fns_ok TX 9) (setNode_none rfl) (d02_64 X') hcall ⟨rfl, by decide +kernel, by decide +kernel⟩ I (by kernel_rfl) ⟨_, _, rfl, hrep, rfl⟩) fun r s' q => ?_))
  match r, q with
  | .ok (.ret v), q =>
    obtain ⟨κ', γ', S, I', hv⟩ := q
    subst hv
    obtain ⟨_, hga, _, ps, hps, _⟩ := I'.objs _ _ hσ
    refine ⟨⟨.inl ⟨.bool true, .bool true, [], rfl, fun _ => rfl, .bool true, by kernel_rfl, fun _ => ⟨.nil, fun a ha => by cases ha⟩⟩, fun b o e => ?_, S.os, S.gens.trans hg⟩, ⟨⟨ps, ?_⟩, trivial⟩⟩
    · rw [show ({ s₁ with heap := ghostOf s₁.heap [(86, 82)] } : Shared).heap = h₀ from hh] at e
      exact (I'.base b o e).1
    · rw [hga] at hps
      exact hps
end Mine
set_option maxRecDepth 100000
namespace Mine
open PySem
/-- the run ends in a value that is so -/
def Sat {α : Type} (x : Option α) (P : α → Prop) : Prop := ∃ a, x = some a ∧ P a
theorem Sat.eq {α : Type} {x : Option α} {P : α → Prop} {a : α} (h : x = some a) (hP : P a) : Sat x P := ⟨a, h, hP⟩
theorem Sat.bind {α β : Type} {x : Option α} {f : α → Option β} {P : β → Prop} (h : Sat x fun a => Sat (f a) P) : Sat (x.bind f) P := by
  obtain ⟨a, rfl, b, e, h⟩ := h; exact ⟨b, e, h⟩
theorem Sat.map {α β : Type} {x : Option α} {f : α → β} {P : β → Prop} (h : Sat x fun a => P (f a)) : Sat (x.map f) P := by
  obtain ⟨a, rfl, h⟩ := h; exact ⟨f a, rfl, h⟩
theorem Sat.mono {α : Type} {x : Option α} {P Q : α → Prop} (h : Sat x P) (k : ∀ a, P a → Q a) : Sat x Q := by
  obtain ⟨a, e, h⟩ := h; exact ⟨a, e, k a h⟩
section
variable {c : Cfg} {Φ : Fns} {sc : Scope} {m : Fm} {σ : Sto} {p q r : Pos} {e e1 e2 t : Expr} {es : List Expr} {P : AV × Sto → Prop} {B : Bool × Sto → Prop} {X : Fl × Fm × Sto → Prop}
theorem q_name {x : Str} {v : AV} (h : look c sc m x = some v) (hP : P (v, σ)) : Sat (ev c Φ (.Name x p) sc m σ) P := ⟨_, by simp [ev, h], hP⟩
theorem q_bin {op : Operator} (h : Sat (ev c Φ e1 sc m σ) fun a => Sat (ev c Φ e2 sc m a.2) fun b => Sat (binA c p op a.1 b.1 b.2) P) : Sat (ev c Φ (.BinOp e1 op e2 p) sc m σ) P := by
  rw [ev]; exact .bind (h.mono fun a h => .bind h)
theorem q_cmp {op : CmpOp} (h : Sat (ev c Φ e1 sc m σ) fun a => Sat (ev c Φ e2 sc m a.2) fun b => Sat (cmpA b.2 op a.1 b.1) fun x => P (.bool x, b.2)) : Sat (ev c Φ (.Compare e1 [op] [e2] p) sc m σ) P := by
  rw [ev]; exact .bind (h.mono fun a h => .bind (h.mono fun b h => .map h))
theorem q_list (hl : es.length ≤ 1000) (h : Sat (evs c Φ es sc m σ) fun r => P (mkL c p r.1 r.2)) : Sat (ev c Φ (.List es p) sc m σ) P := by
  rw [ev, if_pos hl]; exact .map h
theorem q_tuple {x : Nat} (hl : es.length ≤ 1000) (h : Sat (evs c Φ es sc m σ) fun r => P (.tuple r.1, r.2)) : Sat (ev c Φ (.Tuple es x p) sc m σ) P := by
  rw [ev, if_pos hl]; exact .map h
theorem q_nil {Q : List AV × Sto → Prop} (h : Q ([], σ)) : Sat (evs c Φ [] sc m σ) Q := ⟨_, by simp [evs], h⟩
theorem q_cons {Q : List AV × Sto → Prop} (h : Sat (ev c Φ e sc m σ) fun v => Sat (evs c Φ es sc m v.2) fun vs => Q (v.1 :: vs.1, vs.2)) : Sat (evs c Φ (e :: es) sc m σ) Q := by
  rw [evs]; exact .bind (h.mono fun a h => .map h)
theorem q_meth {n : Str} (ho : okBase e = true ∧ q.endLine = p.line ∧ es.length < 30) (h : Sat (ev c Φ e sc m σ) fun v => Sat (resM v.2 v.1 n) fun mt => Sat (evs c Φ es sc m v.2) fun as => Sat (runM c p Φ mt as.1 as.2) P) :
    Sat (ev c Φ (.Call (.Attribute e n q) es [] p) sc m σ) P := by
  rw [ev, if_pos ho]; exact .bind (h.mono fun a h => .bind (h.mono fun b h => .bind h))
theorem q_attr {n : Str} (ho : okBase e = true) (h : Sat (ev c Φ e sc m σ) fun v => Sat (attrA v.2 v.1 n) fun r => P (r, v.2)) : Sat (ev c Φ (.Attribute e n p) sc m σ) P := by
  rw [ev, if_pos ho]; exact .bind (h.mono fun a h => .map h)
theorem q_call {f : Str} {g : AV} (he : ev c Φ (.Call (.Name f q) es [] p) sc m σ = (look c sc m f).bind fun g => (evs c Φ es sc m σ).bind fun as => callV c Φ p g as.1 as.2) (hg : look c sc m f = some g)
    (h : Sat (evs c Φ es sc m σ) fun as => Sat (callV c Φ p g as.1 as.2) P) : Sat (ev c Φ (.Call (.Name f q) es [] p) sc m σ) P := by
  rw [he, hg]; exact .bind (.eq rfl (.bind h))
theorem q_sub (he : ev c Φ (.Subscript e e2 p) sc m σ = (ev c Φ e sc m σ).bind fun v => (ev c Φ e2 sc m v.2).bind fun i => (getA i.2 v.1 i.1).map fun r => (r, i.2))
    (h : Sat (ev c Φ e sc m σ) fun v => Sat (ev c Φ e2 sc m v.2) fun i => Sat (getA i.2 v.1 i.1) fun r => P (r, i.2)) : Sat (ev c Φ (.Subscript e e2 p) sc m σ) P := by
  rw [he]; exact .bind (h.mono fun a h => .bind (h.mono fun b h => .map h))
theorem q_if (h : Sat (tr c Φ t (ev c Φ t sc) sc m σ) fun x => if x.1 = true then Sat (ev c Φ e1 sc m x.2) P else Sat (ev c Φ e2 sc m x.2) P) : Sat (ev c Φ (.IfExp t e1 e2 p) sc m σ) P := by
  rw [ev]; exact .bind (h.mono fun a h => by split <;> simp_all)
theorem q_slice {lo hi : Option Expr} (h : Sat (ev c Φ e sc m σ) fun v => Sat (evO c Φ lo sc m v.2) fun a => Sat (evO c Φ hi sc m a.2) fun b => Sat (optI a.1) fun l => Sat (optI b.1) fun u => Sat (sliceA c p b.2 v.1 l u) P) :
    Sat (ev c Φ (.Subscript e (.Slice lo hi none q) p) sc m σ) P := by
  rw [ev]; exact .bind (h.mono fun a h => .bind (h.mono fun a h => .bind (h.mono fun a h => .bind (h.mono fun a h => .bind h))))
theorem q_none {Q : Option AV × Sto → Prop} (h : Q (none, σ)) : Sat (evO c Φ none sc m σ) Q := ⟨_, by simp [evO], h⟩
theorem q_some {Q : Option AV × Sto → Prop} (h : Sat (ev c Φ e sc m σ) fun v => Q (some v.1, v.2)) : Sat (evO c Φ (some e) sc m σ) Q := by
  rw [evO]; exact .map h
/-- comprehensions -/
theorem q_listcomp {elt iter : Expr} {ifs : List Expr} {gs : List Comprehension} {csc : Scope} (ho : okComp sc csc = true) (h : Sat (evSrc c Φ iter (ev c Φ iter sc) sc m σ) fun src =>
      Sat (compA csc src.1 t (inner csc m) (trs c Φ ifs csc) (gens c Φ (emitL (ev c Φ elt csc)) gs csc) ⟨.ki [], []⟩ src.2) fun r => P (mkL c p r.1.vs r.2)) :
    Sat (ev c Φ (.ListComp elt (⟨t, iter, ifs, 0⟩ :: gs) csc p) sc m σ) P := by
  rw [ev, if_pos ⟨rfl, ho⟩]; exact .bind (h.mono fun a h => .map h)
theorem q_dictcomp {k v iter : Expr} {ifs : List Expr} {gs : List Comprehension} {csc : Scope} (ho : okComp sc csc = true) (h : Sat (evSrc c Φ iter (ev c Φ iter sc) sc m σ) fun src =>
      Sat (compA csc src.1 t (inner csc m) (trs c Φ ifs csc) (gens c Φ (emitD (ev c Φ k csc) (ev c Φ v csc)) gs csc) ⟨if c.sk p then .ks [] else .ki [], []⟩ src.2) fun r => P (.dict r.1.ks r.1.vs, r.2)) :
    Sat (ev c Φ (.DictComp k v (⟨t, iter, ifs, 0⟩ :: gs) csc p) sc m σ) P := by
  rw [ev, if_pos ⟨rfl, ho⟩]; exact .bind (h.mono fun a h => .map h)
theorem q_src {iter : Expr} {Q : Src × Sto → Prop} (he : evSrc c Φ iter (ev c Φ iter sc) sc m σ = (ev c Φ iter sc m σ).map fun v => (.val v.1, v.2)) (h : Sat (ev c Φ iter sc m σ) fun v => Q (.val v.1, v.2)) :
    Sat (evSrc c Φ iter (ev c Φ iter sc) sc m σ) Q := by rw [he]; exact .map h
theorem q_gens {K : Fm → Acc → Sto → Option (Acc × Sto)} {acc : Acc} {iter : Expr} {ifs : List Expr} {gs : List Comprehension} {Q : Acc × Sto → Prop}
    (h : Sat (ev c Φ iter sc m σ) fun v => Sat (compA sc (.val v.1) t m (trs c Φ ifs sc) (gens c Φ K gs sc) acc v.2) Q) : Sat (gens c Φ K (⟨t, iter, ifs, 0⟩ :: gs) sc m acc σ) Q := by
  rw [gens, if_pos rfl]; exact .bind h
theorem q_gens0 {K : Fm → Acc → Sto → Option (Acc × Sto)} {acc : Acc} {Q : Acc × Sto → Prop} (h : Sat (K m acc σ) Q) : Sat (gens c Φ K [] sc m acc σ) Q := by rw [gens]; exact h
theorem q_emitL {acc : Acc} {Q : Acc × Sto → Prop} (h : Sat (ev c Φ e sc m σ) fun r => acc.vs.length < 2 ^ 20 ∧ Q ({ acc with vs := acc.vs ++ [r.1] }, r.2)) : Sat (emitL (ev c Φ e sc) m acc σ) Q := by
  unfold emitL; exact .bind (h.mono fun a h => by rw [if_pos h.1]; exact .eq rfl h.2)
theorem q_emitD {acc : Acc} {Q : Acc × Sto → Prop} (h : Sat (ev c Φ e1 sc m σ) fun a => Sat (ev c Φ e2 sc m a.2) fun b => Sat (setKey a.1 b.1 acc.ks acc.vs) fun r => Q (⟨r.1, r.2⟩, b.2)) : Sat (emitD (ev c Φ e1 sc) (ev c Φ e2 sc) m acc σ) Q := by
  unfold emitD; exact .bind (h.mono fun a h => .bind (h.mono fun b h => .map h))
theorem iterA_inv {β : Type} {rd : β → Option (List AV)} {step : AV → β → Option (Fl × β)} {xs : List AV} {I : Nat → β → Prop} {R : Fl × β → Prop} (hrd : ∀ i b, I i b → rd b = some xs) (hend : ∀ b, I xs.length b → R (.next, b))
    (hs : ∀ i b (h : i < xs.length), I i b → Sat (step xs[i] b) fun z => match z.1 with
      | .next | .cont => I (i + 1) z.2
      | .brk => R (.next, z.2)
      | .ret v => R (.ret v, z.2)) : ∀ (n i : Nat) (b : β), n + i = xs.length → I i b → Sat (iterA rd step n i b) R
  | 0, i, b, h, hI => by
    unfold iterA
    rw [hrd i b hI]
    simp only [Option.bind_eq_bind, Option.bind_some]
    rw [if_pos (by omega)]
    exact .eq rfl (hend b (by rw [Nat.zero_add] at h; exact h ▸ hI))
  | n + 1, i, b, h, hI => by
    unfold iterA
    have hi : i < xs.length := by omega
    rw [hrd i b hI]
    simp only [Option.bind_eq_bind, Option.bind_some, List.getElem?_eq_getElem hi]
    obtain ⟨⟨f, b'⟩, e, z⟩ := hs i b hi hI
    rw [e]
    cases f with
    | next => exact iterA_inv hrd hend hs n (i + 1) b' (by omega) z
    | cont => exact iterA_inv hrd hend hs n (i + 1) b' (by omega) z
    | brk => exact .eq rfl z
    | ret v => exact .eq rfl z
theorem compA_inv {src : Src} {ifs : Fm → Sto → Option (Bool × Sto)} {rest : Fm → Acc → Sto → Option (Acc × Sto)} {acc : Acc} {xs : List AV} {I : Nat → Acc × Sto → Prop} {R : Acc × Sto → Prop} (hf : src.fits t = true ∧ freshT m t = true) (h0 : I 0 (acc, σ))
    (hrd : ∀ i b, I i b → src.items b.2 = some xs) (hend : ∀ b, I xs.length b → R b) (hs : ∀ i b (h : i < xs.length), I i b → Sat (bindT sc t xs[i] m) fun m' => Sat (ifs m' b.2) fun r => if r.1 = true then Sat (rest m' b.1 r.2) (I (i + 1)) else I (i + 1) (b.1, r.2)) :
    Sat (compA sc src t m ifs rest acc σ) R := by
  unfold compA
  rw [if_pos hf, hrd 0 _ h0]
  refine .bind (.eq rfl (.map (Sat.mono (iterA_inv (I := I) (R := fun z => R z.2) hrd hend (fun i b h hI => ?_) xs.length 0 (acc, σ) rfl h0) fun _ z => z)))
  refine .bind ((hs i b h hI).mono fun m' z => .bind (z.mono fun r z => ?_))
  split
  · rename_i q; rw [if_pos q] at z; exact .map (z.mono fun _ z => z)
  · rename_i q; rw [if_neg q] at z; exact .eq rfl z
/-- tests -/
theorem t_cmp {op : CmpOp} {w : Fm → Sto → Option (AV × Sto)} (h : Sat (ev c Φ e1 sc m σ) fun a => Sat (ev c Φ e2 sc m a.2) fun b => Sat (cmpA b.2 op a.1 b.1) fun x => B (x, b.2)) : Sat (tr c Φ (.Compare e1 [op] [e2] p) w sc m σ) B := by
  rw [tr, if_pos (by rfl)]; refine .bind (h.mono fun a h => ?_); rw [trC]; exact .bind (h.mono fun b h => .map h)
theorem t_not {w : Fm → Sto → Option (AV × Sto)} (h : Sat (tr c Φ e (ev c Φ e sc) sc m σ) fun b => B (!b.1, b.2)) : Sat (tr c Φ (.UnaryOp .Not e p) w sc m σ) B := by
  rw [tr]; exact .map h
theorem t_bool {op : BoolOp} {w : Fm → Sto → Option (AV × Sto)} (h : Sat (trB c Φ op es sc m σ) B) : Sat (tr c Φ (.BoolOp op es p) w sc m σ) B := by rw [tr]; exact h
theorem t_nil {op : BoolOp} (h : B (op == .And, σ)) : Sat (trB c Φ op [] sc m σ) B := ⟨_, by simp [trB], h⟩
theorem t_and (h : Sat (tr c Φ e (ev c Φ e sc) sc m σ) fun b => if b.1 = true then Sat (trB c Φ .And es sc m b.2) B else B (false, b.2)) : Sat (trB c Φ .And (e :: es) sc m σ) B := by
  rw [trB]; refine .bind (h.mono fun b h => ?_)
  obtain ⟨b, σ'⟩ := b
  cases b with
  | true => exact h
  | false => exact .eq rfl h
theorem t_or (h : Sat (tr c Φ e (ev c Φ e sc) sc m σ) fun b => if b.1 = true then B (true, b.2) else Sat (trB c Φ .Or es sc m b.2) B) : Sat (trB c Φ .Or (e :: es) sc m σ) B := by
  rw [trB]; refine .bind (h.mono fun b h => ?_)
  obtain ⟨b, σ'⟩ := b
  cases b with
  | true => exact .eq rfl h
  | false => exact h
theorem t_plain {w : Fm → Sto → Option (AV × Sto)} (he : tr c Φ e w sc m σ = (w m σ).bind fun v => (truthA v.2 v.1).map fun b => (b, v.2)) (h : Sat (w m σ) fun v => Sat (truthA v.2 v.1) fun b => B (b, v.2)) : Sat (tr c Φ e w sc m σ) B := by
  rw [he]; exact .bind (h.mono fun v h => .map h)
theorem t_trs0 (h : B (true, σ)) : Sat (trs c Φ [] sc m σ) B := ⟨_, by simp [trs], h⟩
theorem t_trs1 (h : Sat (tr c Φ e (ev c Φ e sc) sc m σ) B) : Sat (trs c Φ [e] sc m σ) B := by
  obtain ⟨⟨b, σ'⟩, e, h⟩ := h
  refine ⟨(b, σ'), ?_, h⟩
  cases b <;> simp [trs, e]
/-- statements -/
theorem x_expr (hc : isComp e = false) (h : Sat (ev c Φ e sc m σ) fun r => X (.next, m, r.2)) : Sat (ex c Φ (.Expr e p) sc m σ) X := by rw [ex, if_pos hc]; exact .map h
theorem x_return (h : Sat (ev c Φ e sc m σ) fun r => X (.ret r.1, m, r.2)) : Sat (ex c Φ (.Return (some e) p) sc m σ) X := by rw [ex]; exact .map h
theorem x_assign {x : Str} (ho : okStores (.Name x q) e = true) (hx : setv sc m x = fun v => some (m.set x v)) (h : Sat (ev c Φ e sc m σ) fun v => X (.next, m.set x v.1, v.2)) : Sat (ex c Φ (.Assign [.Name x q] e p) sc m σ) X := by
  rw [ex, if_pos ho]
  · exact .bind (h.mono fun v h => .map (.eq (by rw [bindT, hx]) h))
  all_goals (intros; rename_i z; cases z)
theorem x_assignT {ts : List Expr} {y : Nat} (ho : okStores (.Tuple ts y q) e = true) (h : Sat (ev c Φ e sc m σ) fun v => Sat (bindT sc (.Tuple ts y q) v.1 m) fun m' => X (.next, m', v.2)) : Sat (ex c Φ (.Assign [.Tuple ts y q] e p) sc m σ) X := by
  rw [ex, if_pos ho]
  · exact .bind (h.mono fun v h => .map h)
  all_goals (intros; rename_i z; cases z)
theorem x_aug {x : Str} {op : Operator} {v : AV} (hv : look c sc m x = some v) (hx : setv sc m x = fun v => some (m.set x v)) (h : Sat (ev c Φ e sc m σ) fun w => Sat (incA w.2 op v w.1) fun r => X (.next, m.set x r.1, r.2)) : Sat (ex c Φ (.AugAssign (.Name x q) op e p) sc m σ) X := by
  rw [ex, hv]; exact .bind (.eq rfl (.bind (h.mono fun w h => .bind (h.mono fun r h => .map (.eq (by rw [hx]) h)))))
theorem x_if {a b : List Stmt} (h : Sat (tr c Φ t (ev c Φ t sc) sc m σ) fun x => if x.1 = true then Sat (exs c Φ a sc m x.2) X else Sat (exs c Φ b sc m x.2) X) : Sat (ex c Φ (.If t a b p) sc m σ) X := by
  rw [ex]; exact .bind (h.mono fun x h => by split <;> simp_all)
theorem x_nil (h : X (.next, m, σ)) : Sat (exs c Φ [] sc m σ) X := ⟨_, by simp [exs], h⟩
theorem x_cons {s : Stmt} {ss : List Stmt} (hz : c.fz s.pos = []) (h : Sat (ex c Φ s sc m σ) fun r => match r.1 with
    | .next => Sat (exs c Φ ss sc r.2.1 r.2.2) X
    | f => X (f, r.2)) : Sat (exs c Φ (s :: ss) sc m σ) X := by
  rw [exs, hz]
  refine .bind (.eq rfl (.bind (h.mono fun r h => ?_)))
  obtain ⟨f, m', σ'⟩ := r
  cases f <;> first | exact h | exact .eq rfl h
theorem x_consF {s : Stmt} {ss : List Stmt} {x : Str} {l : Nat} {xs : List AV} (hz : c.fz s.pos = [x]) (hx : m x = some (.loc l)) (hl : σ.get l = some (.list xs)) (h : Sat (ex c Φ s sc (m.set x (.list xs)) (σ.forget l)) fun r => match r.1 with
    | .next => Sat (exs c Φ ss sc r.2.1 r.2.2) X
    | f => X (f, r.2)) : Sat (exs c Φ (s :: ss) sc m σ) X := by
  rw [exs, hz]
  refine .bind (.eq (a := (m.set x (.list xs), σ.forget l)) (by simp [freezes, freezeA, hx, hl]) (.bind (h.mono fun r h => ?_)))
  obtain ⟨f, m', σ'⟩ := r
  cases f <;> first | exact h | exact .eq rfl h
theorem whileA_inv {β : Type} {test : β → Option (Bool × β)} {body : β → Option (Fl × β)} {I : Nat → β → Prop} {R : Fl × β → Prop}
    (hs : ∀ n b, I n b → Sat (test b) fun z => if z.1 = true then Sat (body z.2) fun y => match y.1 with
      | .next | .cont => ∃ k, k < n ∧ I k y.2
      | .brk => R (.next, y.2)
      | .ret v => R (.ret v, y.2) else R (.next, z.2)) : ∀ (fuel n : Nat) (b : β), n < fuel → I n b → Sat (whileA test body fuel b) R
  | 0, n, b, h, _ => by omega
  | fuel + 1, n, b, h, hI => by
    unfold whileA
    obtain ⟨⟨t, b'⟩, e, z⟩ := hs n b hI
    rw [e]
    cases t with
    | false => exact .eq rfl z
    | true =>
      obtain ⟨⟨f, b2⟩, e2, y⟩ := z
      simp only [e2]
      cases f with
      | next => obtain ⟨k, hk, hI⟩ := y; exact whileA_inv hs fuel k b2 (by omega) hI
      | cont => obtain ⟨k, hk, hI⟩ := y; exact whileA_inv hs fuel k b2 (by omega) hI
      | brk => exact .eq rfl y
      | ret v => exact .eq rfl y
theorem x_while {b : List Stmt} {I : Nat → Fm × Sto → Prop} {n : Nat} (hn : n < c.fuel) (h0 : I n (m, σ)) (hs : ∀ n s, I n s → Sat (tr c Φ t (ev c Φ t sc) sc s.1 s.2) fun z => if z.1 = true then Sat (exs c Φ b sc s.1 z.2) fun y => match y.1 with
      | .next | .cont => ∃ k, k < n ∧ I k y.2
      | .brk => X (.next, y.2)
      | .ret v => X (.ret v, y.2) else X (.next, s.1, z.2)) : Sat (ex c Φ (.While t b [] p) sc m σ) X := by
  rw [ex]
  exact whileA_inv (I := I) (fun n s hI => .map (hs n s hI)) c.fuel n (m, σ) hn h0
theorem x_for {b : List Stmt} {xs : List AV} {I : Nat → Fm × Sto → Prop} (h : Sat (ev c Φ e sc m σ) fun v => items? v.2 v.1 = some xs ∧ I 0 (m, v.2) ∧ (∀ i s, I i s → items? s.2 v.1 = some xs) ∧ (∀ s, I xs.length s → X (.next, s)) ∧
      ∀ i s (_ : i < xs.length), I i s → Sat (bindT sc t xs[i] s.1) fun m' => Sat (exs c Φ b sc m' s.2) fun z => match z.1 with
        | .next | .cont => I (i + 1) z.2
        | .brk => X (.next, z.2)
        | .ret v => X (.ret v, z.2)) : Sat (ex c Φ (.For t e b [] p) sc m σ) X := by
  rw [ex]
  refine .bind (h.mono fun v h => ?_)
  obtain ⟨h1, h2, h3, h4, h5⟩ := h
  rw [h1]
  refine .bind (.eq rfl ?_)
  exact iterA_inv (I := I) h3 h4 (fun i s hi hI => .bind (h5 i s hi hI)) xs.length 0 (m, v.2) rfl h2
end
end Mine
set_option maxRecDepth 100000
namespace Mine
open PySem PyProof.Rows
abbrev cfgP : Cfg := cfg false sk2 pw mu2 fz2
abbrev F (n : Nat) : Fns := fns cfgP (Mine.defsOf pw) n
def defP (i : Nat) : Def := ⟨(argsOf (defAt pw i)).args.map (·.arg), bodyOf (defAt pw i), scopeOf (defAt pw i)⟩
theorem call_isterm {n : Nat} {x : Int} {σ : Sto} : F (n + 1) "ISTERMINAL" [.int x] σ = some (.bool (decide (x < 256)), σ.upto σ.nx) := by kernel_rfl
theorem call_isnon {n : Nat} {x : Int} {σ : Sto} : F (n + 1) "ISNONTERMINAL" [.int x] σ = some (.bool (decide (256 ≤ x)), σ.upto σ.nx) := by kernel_rfl
theorem call_iseof {n : Nat} {x : Int} {σ : Sto} : F (n + 1) "ISEOF" [.int x] σ = some (.bool (PyData.eqv (.int x) (.int 0)), σ.upto σ.nx) := by kernel_rfl
def exK : List Str := match globOf pw "EXACT_TOKEN_TYPES" with
  | some (.dict (.ks ks) _) => ks
  | _ => []
def exV : List AV := match globOf pw "EXACT_TOKEN_TYPES" with
  | some (.dict _ vs) => vs
  | _ => []
theorem call_symbol {n : Nat} {w : Str} {ks : List Str} {vs : List AV} {σ : Sto} : F (n + 1) "_law_symbol" [.str w, .dict (.ks ks) vs] σ = some ((lk w exK exV).getD ((lk w ks vs).getD (.int (-1))), σ.upto σ.nx) := by kernel_rfl
end Mine
set_option maxRecDepth 100000
namespace Mine
open PySem PyProof.Rows
def names6 : List Str := ["\" ", "b\"\\", "..", "\n#", "<>", "t\x0b'"]
def signs48 : List Str := Txt.split "( ) [ ] : , ; + - * / | & < > = . % { } == != <= >= ~ ^ << >> ** += -= *= /= %= &= |= ^= <<= >>= **= // //= @ @= -> ... := !" " "
def words56 : List Str := (["", "x"] : List Str) ++ signs48 ++ names6
def blank4 : List Nat := [10, 9, 13, 32]
def riskyW (w : List Nat) (m : Nat) : List Nat := if m = 0 then [34, 92] else if m = 1 then [10, 9, 13, 32, 92] ++ (if w.head? = some 34 then [34] else []) else w
def escW (r : List Nat) : List Nat → List Nat
  | [] => []
  | c :: cs => if r.contains c then 92 :: c :: escW r cs else c :: escW r cs
/-- how a word is written -/
def encW (w : List Nat) (m b : Nat) : List Nat := if m = 0 then b :: 34 :: (escW (riskyW w m) w ++ [34]) else escW (riskyW w m) w ++ [b]
def cases672 : List (Str × Nat × Nat) := words56.flatMap fun (w : Str) => (if w.cps.isEmpty then [0] else [0, 1, 2]).flatMap fun m => blank4.map fun b => (w, m, b)
def enc (x : Str × Nat × Nat) : List Nat := encW x.1.cps.toList x.2.1 x.2.2
theorem written_all {n : Nat} {σ : Sto} : (cases672.map fun x => F (n + 1) "_law_written" [.str x.1, .int x.2.1, .str ⟨#[x.2.2]⟩] σ) = cases672.map fun x => some (.str ⟨(enc x).toArray⟩, σ.upto σ.nx) := by kernel_rfl
theorem token_nil {n : Nat} : (cases672.map fun x => token (enc x ++ []) n) = cases672.map fun x => (x.1.cps.toList, [], n + (enc x).count 10) := by kernel_rfl
theorem token_cons {y : Nat} {rest : List Nat} {n : Nat} : (cases672.map fun x => token (enc x ++ y :: rest) n) = cases672.map fun x => (x.1.cps.toList, y :: rest, n + (enc x).count 10) := by kernel_rfl
theorem token_all {rest : List Nat} {n : Nat} {x : Str × Nat × Nat} (hx : x ∈ cases672) : token (enc x ++ rest) n = (x.1.cps.toList, rest, n + (enc x).count 10) := by
  cases rest with
  | nil => exact List.map_inj_left.mp token_nil x hx
  | cons y rest => exact List.map_inj_left.mp token_cons x hx
theorem token_last {n : Nat} : (cases672.map fun x => token (enc x).dropLast n) = cases672.map fun x => (x.1.cps.toList, [], n + ((enc x).dropLast).count 10) := by kernel_rfl
end Mine
set_option maxRecDepth 100000
namespace Mine
open PySem PyProof.Rows
theorem sat_call {c : Cfg} {Φ : Fns} {d : Def} {args : List AV} {σ : Sto} {P : AV × Sto → Prop} (hl : d.params.length = args.length) (h : Sat (exs c Φ d.body d.scope (fun x => (d.params.zip args).lookup x) σ) fun r => match r.1 with
    | .ret v => P (v, r.2.2.upto σ.nx)
    | .next => P (.none, r.2.2.upto σ.nx)
    | _ => False) : Sat (d.call c Φ args σ) P := by
  obtain ⟨⟨f, m, σ'⟩, e, h⟩ := h
  unfold Def.call
  rw [if_pos hl, e]
  cases f with
  | ret v => exact .eq rfl h
  | next => exact .eq rfl h
  | brk => exact h.elim
  | cont => exact h.elim
theorem F_def {n i : Nat} {f : Str} {args : List AV} {σ : Sto} (h1 : f ≠ "get_token" ∧ f ≠ "push_token" ∧ f ≠ "_read_char" ∧ f ≠ "_law_stream" ∧ f ≠ "_netrclex") (hd : Mine.defsOf pw f = some (defP i)) : F (n + 1) f args σ = (defP i).call cfgP (F n) args σ := by
  obtain ⟨h1, h2, h3, h4, h5⟩ := h1
  show fns cfgP (Mine.defsOf pw) (n + 1) f args σ = _
  unfold fns
  rw [if_neg h1, if_neg h2, if_neg h3, if_neg h4, if_neg h5, hd]
/-- a rule as the text holds it -/
def ruleZ (br : Nat → List Int) (k : Nat) : List Int := (256 + (k : Int)) :: (br k ++ [0])
def ruleA (br : Nat → List Int) (k : Nat) : AV := .list ((ruleZ br k).map .int)
def leadsA (br : Nat → List Int) : AV := .dict (.ki [256, 257, 258, 259]) [ruleA br 0, ruleA br 1, ruleA br 2, ruleA br 3]
/-- the branches are letters and names -/
structure GOk (br : Nat → List Int) : Prop where
  len : ∀ k, k < 4 → (br k).length ≤ 2
  sym : ∀ k, k < 4 → ∀ s ∈ br k, (0 < s ∧ s < 256) ∨ ∃ j : Nat, j < 4 ∧ s = 256 + (j : Int)
/-- a symbol: a letter or a name -/
def SymOk (s : Int) : Prop := (0 < s ∧ s < 256) ∨ ∃ j : Nat, j < 4 ∧ s = 256 + (j : Int)
def there (br : Nat → List Int) : Int → List Nat → Option Int
  | s, [] => some (if s < 256 then s else 256 + ((br (s - 256).toNat).length : Int))
  | s, d :: ds => if s < 256 then none else match (br (s - 256).toNat)[d]? with
    | none => none
    | some t => there br t ds
def optA : Option Int → AV
  | none => .none
  | some i => .int i
def roadS (ds : List Nat) : Str := ⟨(ds.map (48 + ·)).toArray⟩
theorem getA_leads {br : Nat → List Int} {σ : Sto} {j : Nat} (hj : j < 4) : getA σ (leadsA br) (.int (256 + (j : Int))) = some (ruleA br j) := by
  have : j = 0 ∨ j = 1 ∨ j = 2 ∨ j = 3 := by omega
  rcases this with rfl | rfl | rfl | rfl <;> kernel_rfl
theorem len_rule {br : Nat → List Int} {k : Nat} : (ruleZ br k).length = (br k).length + 2 := by simp [ruleZ]
theorem idx_nat (i n : Nat) (h : i < n) : idx n (i : Int) = some i := by
  unfold idx seqIndex?
  have h1 : ¬ ((i : Int) < 0) := by omega
  have h2 : (0 : Int) ≤ i := by omega
  have h3 : (i : Int) < n := by omega
  simp [h1, h2, h3]
theorem rule_at {br : Nat → List Int} {σ : Sto} {k d : Nat} {t : Int} (h : (br k)[d]? = some t) : getA σ (ruleA br k) (.int ((d : Int) + 1)) = some (.int t) := by
  have hd : d < (br k).length := (List.getElem?_eq_some_iff.mp h).1
  have hl : ((ruleZ br k).map AV.int).length = (br k).length + 2 := by simp [ruleZ]
  have hi : idx ((ruleZ br k).map AV.int).length ((d : Int) + 1) = some (d + 1) := idx_nat (d + 1) _ (by omega)
  show ((lst? σ (ruleA br k)).bind fun xs => (idx xs.length ((d : Int) + 1)).bind fun k => xs[k]?) = _
  show ((idx ((ruleZ br k).map AV.int).length ((d : Int) + 1)).bind fun j => ((ruleZ br k).map AV.int)[j]?) = _
  rw [hi]
  show ((ruleZ br k).map AV.int)[d + 1]? = _
  rw [List.getElem?_map]
  show ((br k ++ [0])[d]?).map AV.int = _
  rw [List.getElem?_append_left hd, h]
  rfl
theorem SymOk.split {s : Int} (h : SymOk s) : (s < 256 ∧ ∀ br ds, there br s ds = if ds = [] then some s else none) ∨ ∃ j : Nat, j < 4 ∧ s = 256 + (j : Int) := by
  rcases h with ⟨h1, h2⟩ | h
  · refine .inl ⟨h2, fun br ds => ?_⟩
    cases ds with
    | nil => simp [there, h2]
    | cons d ds => simp [there, h2]
  · exact .inr h
theorem lk_sym {m : Fm} : look cfgP (defP 62).scope m "symbol" = m "symbol" := by kernel_rfl
theorem lk_leads {m : Fm} : look cfgP (defP 62).scope m "leads" = m "leads" := by kernel_rfl
theorem lk_step {m : Fm} : look cfgP (defP 62).scope m "step" = m "step" := by kernel_rfl
theorem call_there {br : Nat → List Int} (G : GOk br) {n : Nat} {s : Int} (hs : SymOk s) {ds : List Nat} (hd : ∀ d ∈ ds, d < 2) {σ : Sto} :
    Sat (F (n + 1) "_law_there" [leadsA br, .int s, .str (roadS ds)] σ) fun r => r = (optA (there br s ds), σ.upto σ.nx) := by
  rw [F_def (i := 62) (by decide) (by kernel_rfl)]
  refine sat_call (by kernel_rfl) ?_
  refine x_cons (by kernel_rfl) ?_
  refine x_for (xs := ds.map fun d => .str ⟨#[48 + d]⟩) (I := fun i s' => s'.2 = σ ∧ ∃ t, SymOk t ∧ s'.1 "leads" = some (leadsA br) ∧ s'.1 "symbol" = some (.int t) ∧ there br t (ds.drop i) = there br s ds) ?_
  refine q_name (v := .str (roadS ds)) (by kernel_rfl) ⟨?_, ⟨rfl, s, hs, by kernel_rfl, by kernel_rfl, rfl⟩, fun i s h => ?_, fun s' h => ?_, fun i s' hi h => ?_⟩
  · simp [items?, roadS, List.map_map, Function.comp_def]
  · simp [items?, roadS, List.map_map, Function.comp_def]
  · obtain ⟨m, σ'⟩ := s'
    obtain ⟨rfl, t, ht, h2, h3, h4⟩ := h
    simp only at h2 h3
    rw [List.length_map, List.drop_length] at h4
    refine x_cons (by kernel_rfl) (x_return (q_if (t_cmp (q_name (lk_sym.trans h3) (.eq rfl (.eq rfl ?_))))))
    rw [← h4]
    rcases ht.split with ⟨hl, hth⟩ | ⟨j, hj, rfl⟩
    · rw [if_pos (by simpa using hl), hth, if_pos rfl]
      exact q_name (lk_sym.trans h3) rfl
    · rw [if_neg (by simp; omega)]
      refine q_bin (.eq rfl (q_call rfl (g := .bi "len") (by kernel_rfl) (q_cons (q_sub rfl (q_name (lk_leads.trans h2) (q_name (lk_sym.trans h3) (.eq (getA_leads hj) (q_nil ?_))))))))
      refine .eq (a := (.int ((br j).length + 2 : Nat), σ')) ?_ (.eq rfl ?_)
      · show some (AV.int (((ruleZ br j).map AV.int).length : Nat), σ') = _
        rw [List.length_map, len_rule]
      · have hj2 : (256 + (j : Int) - 256).toNat = j := by omega
        have : there br (256 + (j : Int)) [] = some (256 + ((br j).length : Int)) := by
          simp only [there]
          rw [if_neg (by omega), hj2]
        rw [this]
        show (AV.int (254 + (((br j).length + 2 : Nat) : Int)), _) = (AV.int (256 + ((br j).length : Int)), _)
        have : (254 + (((br j).length + 2 : Nat) : Int)) = 256 + ((br j).length : Int) := by omega
        rw [this]
  · obtain ⟨m, σ'⟩ := s'
    obtain ⟨rfl, t, ht, h2, h3, h4⟩ := h
    simp only at h2 h3
    rw [List.length_map] at hi
    have hdi := hd _ (List.getElem_mem hi)
    have hdrop : ds.drop i = ds[i] :: ds.drop (i + 1) := List.drop_eq_getElem_cons hi
    rw [hdrop] at h4
    refine .eq (a := m.set "step" (.str ⟨#[48 + ds[i]]⟩)) (by simp; kernel_rfl) ?_
    generalize ds[i] = d at *
    have e2 : (m.set "step" (.str ⟨#[48 + d]⟩)) "leads" = some (leadsA br) := by rw [Fm.set, if_neg (by decide)]; exact h2
    have e3 : (m.set "step" (.str ⟨#[48 + d]⟩)) "symbol" = some (.int t) := by rw [Fm.set, if_neg (by decide)]; exact h3
    have e4 : (m.set "step" (.str ⟨#[48 + d]⟩)) "step" = some (.str ⟨#[48 + d]⟩) := by rw [Fm.set, if_pos rfl]
    generalize (m.set "step" (.str ⟨#[48 + d]⟩)) = m' at *
    refine x_cons (by kernel_rfl) (x_if (t_bool (t_or (t_cmp (q_name (lk_sym.trans e3) (.eq rfl (.eq rfl ?_)))))))
    have hint : ∀ {p : Pos} {c : Cfg} {Φ : Fns} {σ : Sto}, callV c Φ p (.bi "int") [.str ⟨#[48 + d]⟩] σ = some (.int d, σ) := fun {p c Φ σ} => by
      have : d = 0 ∨ d = 1 := by omega
      rcases this with rfl | rfl <;> kernel_rfl
    rcases ht.split with ⟨hl, hth⟩ | ⟨j, hj, rfl⟩
    · rw [if_pos (by simpa using hl), if_pos rfl]
      refine x_cons (by kernel_rfl) (x_return (.eq rfl ?_))
      rw [hth, if_neg (by simp)] at h4
      rw [← h4]
      rfl
    · rw [if_neg (by simp; omega)]
      refine t_or (t_cmp (q_call rfl (g := .bi "len") (by kernel_rfl) (q_cons (q_sub rfl (q_name (lk_leads.trans e2) (q_name (lk_sym.trans e3) (.eq (getA_leads hj) (q_nil ?_))))))))
      refine .eq (a := (.int ((br j).length + 2 : Nat), σ')) ?_ ?_
      · show some (AV.int (((ruleZ br j).map AV.int).length : Nat), σ') = _
        rw [List.length_map, len_rule]
      refine q_bin (q_call rfl (g := .bi "int") (by kernel_rfl) (q_cons (q_name (lk_step.trans e4) (q_nil (.eq hint (.eq rfl (.eq rfl (.eq rfl ?_))))))))
      have hj2 : (256 + (j : Int) - 256).toNat = j := by omega
      have hth : there br (256 + (j : Int)) (d :: ds.drop (i + 1)) = match (br j)[d]? with
        | none => none
        | some t => there br t (ds.drop (i + 1)) := by
        rw [there, if_neg (by omega), hj2]
      rw [hth] at h4
      cases hbr : (br j)[d]? with
      | none =>
        rw [hbr] at h4
        have := List.getElem?_eq_none_iff.mp hbr
        rw [if_pos (by simp; omega), if_pos rfl]
        refine x_cons (by kernel_rfl) (x_return (.eq rfl ?_))
        rw [← h4]
        rfl
      | some t' =>
        rw [hbr] at h4
        have := (List.getElem?_eq_some_iff.mp hbr).1
        rw [if_neg (by simp; omega)]
        refine t_nil ?_
        rw [if_neg (by simp)]
        refine x_nil (x_cons (by kernel_rfl) (x_assign rfl (by kernel_rfl) (q_sub rfl (q_sub rfl (q_name (lk_leads.trans e2) (q_name (lk_sym.trans e3) (.eq (getA_leads hj) ?_)))))))
        refine q_bin (q_call rfl (g := .bi "int") (by kernel_rfl) (q_cons (q_name (lk_step.trans e4) (q_nil (.eq hint (.eq rfl (.eq rfl (.eq (rule_at hbr) ?_))))))))
        refine x_nil ⟨rfl, t', G.sym j hj t' (List.mem_of_getElem? hbr), ?_, ?_, h4⟩
        · show (m'.set "symbol" (.int t')) "leads" = _
          rw [Fm.set, if_neg (by decide)]; exact e2
        · show (m'.set "symbol" (.int t')) "symbol" = _
          rw [Fm.set, if_pos rfl]
end Mine
set_option maxRecDepth 100000
namespace Mine
open PySem PyProof.Rows
def optPy : Option Int → PyData
  | none => .none
  | some i => .int i
theorem toPy_opt {k : Nat} {o : Option Int} : toPy k (optA o) = some (optPy o) := by cases o <;> cases k <;> rfl
theorem toPys_opt {k : Nat} : ∀ {os : List (Option Int)}, toPys k (os.map optA) = some (os.map optPy)
  | [] => by cases k <;> rfl
  | o :: os => by simp [toPys, toPy_opt, toPys_opt]
theorem eqv_opt {a b : Option Int} : PyData.eqv (optPy a) (optPy b) = decide (a = b) := by
  cases a <;> cases b <;> simp [optPy, PyData.eqv]
  rename_i x y
  by_cases h : x = y <;> simp [h]
theorem eqvAll_opt : ∀ {xs ys : List (Option Int)}, PyData.eqvAll (xs.map optPy) (ys.map optPy) = decide (xs = ys)
  | [], [] => by simp [PyData.eqvAll]
  | [], y :: ys => by simp [PyData.eqvAll]
  | x :: xs, [] => by simp [PyData.eqvAll]
  | x :: xs, y :: ys => by
    simp only [List.map_cons, PyData.eqvAll, eqv_opt, eqvAll_opt, List.cons.injEq, Bool.decide_and]
/-- the store below a place is as it was -/
def Keep (n : Nat) (σ σ' : Sto) : Prop := (∀ l, l < n → σ'.get l = σ.get l) ∧ σ.nx ≤ σ'.nx
theorem Keep.refl {n : Nat} {σ : Sto} : Keep n σ σ := ⟨fun _ _ => rfl, Nat.le_refl _⟩
theorem Keep.trans {n : Nat} {σ σ' σ'' : Sto} (a : Keep n σ σ') (b : Keep n σ' σ'') : Keep n σ σ'' := ⟨fun l h => (b.1 l h).trans (a.1 l h), Nat.le_trans a.2 b.2⟩
theorem Keep.new {n : Nat} {σ : Sto} {o : AObj} (h : n ≤ σ.nx) : Keep n σ (σ.new o) := ⟨fun l hl => by simp only [Sto.new]; rw [if_neg (by omega)], Nat.le_succ _⟩
theorem Keep.upd {n l : Nat} {σ : Sto} {o : AObj} (h : n ≤ l) : Keep n σ (σ.upd l o) := ⟨fun k hl => by simp only [Sto.upd]; rw [if_neg (by omega)], Nat.le_refl _⟩
theorem Keep.forget {n l : Nat} {σ : Sto} (h : n ≤ l) : Keep n σ (σ.forget l) := ⟨fun k hl => by simp only [Sto.forget]; rw [if_neg (by omega)], Nat.le_refl _⟩
theorem Keep.upto {n : Nat} {σ : Sto} {k : Nat} (h : n ≤ k) : Keep n σ (σ.upto k) := ⟨fun l hl => by simp only [Sto.upto]; rw [if_pos (by omega)], Nat.le_refl _⟩
theorem Keep.less {n k : Nat} {σ σ' : Sto} (a : Keep n σ σ') (h : k ≤ n) : Keep k σ σ' := ⟨fun l hl => a.1 l (by omega), a.2⟩
theorem new_get {σ : Sto} {o : AObj} : (σ.new o).get σ.nx = some o := by simp [Sto.new]
theorem upd_at {σ : Sto} {l : Nat} {o : AObj} : (σ.upd l o).get l = some o := by simp [Sto.upd]
theorem getA_loc {σ : Sto} {l i : Nat} {xs : List AV} {v : AV} (h : σ.get l = some (.list xs)) (hv : xs[i]? = some v) : getA σ (.loc l) (.int i) = some v := by
  have hi := (List.getElem?_eq_some_iff.mp hv).1
  show ((lst? σ (.loc l)).bind fun xs => (idx xs.length (i : Int)).bind fun k => xs[k]?) = _
  simp only [lst?, h, Option.bind_some, idx_nat i xs.length hi, hv]
theorem getA_list {σ : Sto} {i : Nat} {xs : List AV} {v : AV} (hv : xs[i]? = some v) : getA σ (.list xs) (.int i) = some v := by
  have hi := (List.getElem?_eq_some_iff.mp hv).1
  show ((lst? σ (.list xs)).bind fun xs => (idx xs.length (i : Int)).bind fun k => xs[k]?) = _
  simp only [lst?, Option.bind_some, idx_nat i xs.length hi, hv]
def roads15 : List (List Nat) := [[], [0], [1], [0, 0], [0, 1], [1, 0], [1, 1], [0, 0, 0], [0, 0, 1], [0, 1, 0], [0, 1, 1], [1, 0, 0], [1, 0, 1], [1, 1, 0], [1, 1, 1]]
def rp (i : Nat) : List AV := (roads15.take (1 + 2 * i)).map fun ds => .str (roadS ds)
def rowL (br : Nat → List Int) (n : Nat) : List (Option Int) := roads15.map fun ds => there br (256 + (n : Int)) ds
def rowA (br : Nat → List Int) (n : Nat) : AV := .list ((rowL br n).map optA)
def looksA (br : Nat → List Int) : AV := .list [rowA br 0, rowA br 1, rowA br 2, rowA br 3]
def unlikeL (br : Nat → List Int) : List Nat := (List.range 4).filter fun n => !((List.range n).any fun m => decide (rowL br m = rowL br n))
def pk (br : Nat → List Int) (q : Nat × Nat) (k : Nat) : Bool := decide ((roads15.getD k []).length < (unlikeL br).length) && decide ((rowL br q.1).getD k none ≠ (rowL br q.2).getD k none)
def due (br : Nat → List Int) (q : Nat × Nat) : Option (List Nat) := ((List.range 15).find? (pk br q)).map fun k => roads15.getD k []
def dueA : Option (List Nat) → AV
  | none => .none
  | some ds => .str (roadS ds)
abbrev scD : Scope := (defP 63).scope
theorem ld_roads {m : Fm} : look cfgP scD m "roads" = m "roads" := by kernel_rfl
theorem ld_k {m : Fm} : look cfgP scD m "k" = m "k" := by kernel_rfl
def dueLoop : Stmt := ((bodyOf (defAt pw 63))[1]?).getD (.Pass default)
/-- the roads are listed -/
theorem due_roads {Φ : Fns} {m0 : Fm} {σ σ1 : Sto} {L : Nat} {P : Fl × Fm × Sto → Prop} (hr : m0 "roads" = some (.loc L)) (hL : σ.nx ≤ L) (h0 : σ1.get L = some (.list (rp 0))) (hk : Keep σ.nx σ σ1)
    (hP : ∀ m' σ', m' "roads" = some (.loc L) → (∀ x : Str, x ≠ "k" → x ≠ "roads" → m' x = m0 x) → σ'.get L = some (.list (rp 7)) → Keep σ.nx σ σ' → σ'.nx = σ1.nx → P (.next, m', σ')) : Sat (ex cfgP Φ dueLoop scD m0 σ1) P := by
  refine x_for (xs := [.int 0, .int 1, .int 2, .int 3, .int 4, .int 5, .int 6]) (I := fun i s => s.1 "roads" = some (.loc L) ∧ (∀ x : Str, x ≠ "k" → x ≠ "roads" → s.1 x = m0 x) ∧ s.2.get L = some (.list (rp i)) ∧ Keep σ.nx σ s.2 ∧ s.2.nx = σ1.nx) ?_
  refine .eq (a := (.range 0 7, σ1)) (by kernel_rfl) ⟨by kernel_rfl, ⟨hr, fun _ _ _ => rfl, h0, hk, rfl⟩, fun i s h => by kernel_rfl, fun s h => hP s.1 s.2 h.1 h.2.1 h.2.2.1 h.2.2.2.1 h.2.2.2.2, fun i s hi h => ?_⟩
  obtain ⟨m, σ2⟩ := s
  obtain ⟨h1, h2, h3, h4, h5⟩ := h
  simp only at h1 h2 h3 h4 h5
  have hi7 : i < 7 := hi
  have ex0 : ([.int 0, .int 1, .int 2, .int 3, .int 4, .int 5, .int 6] : List AV)[i] = .int (i : Int) := by
    have : i = 0 ∨ i = 1 ∨ i = 2 ∨ i = 3 ∨ i = 4 ∨ i = 5 ∨ i = 6 := by omega
    rcases this with rfl | rfl | rfl | rfl | rfl | rfl | rfl <;> rfl
  rw [ex0]
  refine .eq (a := m.set "k" (.int i)) (by kernel_rfl) ?_
  have e1 : (m.set "k" (.int i)) "roads" = some (.loc L) := by rw [Fm.set, if_neg (by decide)]; exact h1
  have e2 : (m.set "k" (.int i)) "k" = some (.int i) := by rw [Fm.set, if_pos rfl]
  have e3 : ∀ x : Str, x ≠ "k" → x ≠ "roads" → (m.set "k" (.int i)) x = m0 x := fun x hx hy => by rw [Fm.set, if_neg hx]; exact h2 x hx hy
  generalize (m.set "k" (.int i)) = m' at *
  obtain ⟨ds, hds, hlen, hnext⟩ : ∃ ds, (rp i)[i]? = some (.str (roadS ds)) ∧ ds.length ≤ 3 ∧ rp (i + 1) = rp i ++ [.str (roadS (ds ++ [0])), .str (roadS (ds ++ [1]))] := by
    have : i = 0 ∨ i = 1 ∨ i = 2 ∨ i = 3 ∨ i = 4 ∨ i = 5 ∨ i = 6 := by omega
    rcases this with rfl | rfl | rfl | rfl | rfl | rfl | rfl
    · exact ⟨[], rfl, by decide, rfl⟩
    · exact ⟨[0], rfl, by decide, rfl⟩
    · exact ⟨[1], rfl, by decide, rfl⟩
    · exact ⟨[0, 0], rfl, by decide, rfl⟩
    · exact ⟨[0, 1], rfl, by decide, rfl⟩
    · exact ⟨[1, 0], rfl, by decide, rfl⟩
    · exact ⟨[1, 1], rfl, by decide, rfl⟩
  have hadd : ∀ {p : Pos} {σ : Sto} (d : Nat) (t : Str), t = ⟨#[48 + d]⟩ → binA cfgP p .Add (.str (roadS ds)) (.str t) σ = some (.str (roadS (ds ++ [d])), σ) := fun {p σ} d t ht => by
    subst ht
    show (if (roadS ds).length + (⟨#[48 + d]⟩ : Str).length ≤ sizeLine then some (AV.str (roadS ds ++ ⟨#[48 + d]⟩), σ) else none) = _
    rw [if_pos]
    · congr 3
      show (⟨((ds.map (48 + ·)).toArray ++ #[48 + d])⟩ : Str) = ⟨((ds ++ [d]).map (48 + ·)).toArray⟩
      simp
    · show (ds.map (48 + ·)).toArray.size + 1 ≤ 16777216
      simp; omega
  refine x_cons (by kernel_rfl) (x_aug (v := .loc L) (ld_roads.trans e1) (by kernel_rfl) (q_list (by decide) (q_cons (q_bin (q_sub rfl (q_name (ld_roads.trans e1) (q_name (ld_k.trans e2) (.eq (getA_loc h3 hds) (.eq rfl (.eq (hadd 0 _ (by decide)) ?_))))))))))
  refine q_cons (q_bin (q_sub rfl (q_name (ld_roads.trans e1) (q_name (ld_k.trans e2) (.eq (getA_loc h3 hds) (.eq rfl (.eq (hadd 1 _ (by decide)) (q_nil ?_))))))))
  have hlr : (rp i).length ≤ 15 := by simp [rp, roads15]; omega
  refine .eq (a := (.loc L, σ2.upd L (.list (rp (i + 1))))) ?_ (x_nil ⟨?_, fun x hx hy => ?_, upd_at, h4.trans (Keep.upd hL), h5⟩)
  · rw [hnext]
    show (match σ2.get L with
      | some (.list xs) => (lst? σ2 (AV.list [AV.str (roadS (ds ++ [0])), AV.str (roadS (ds ++ [1]))])).bind fun ys => if xs.length + ys.length ≤ 2 ^ 20 then some (AV.loc L, σ2.upd L (.list (xs ++ ys))) else none
      | _ => none) = _
    rw [h3]
    show (if (rp i).length + 2 ≤ 2 ^ 20 then _ else none) = _
    rw [if_pos (by omega)]
  · show (m'.set "roads" (.loc L)) "roads" = _
    rw [Fm.set, if_pos rfl]
  · show (m'.set "roads" (.loc L)) x = _
    rw [Fm.set, if_neg hy]; exact e3 x hx hy
end Mine
set_option maxRecDepth 100000
namespace Mine
open PySem PyProof.Rows
def dueLooks : Stmt := ((bodyOf (defAt pw 63))[2]?).getD (.Pass default)
theorem symName_ok {j : Nat} (h : j < 4) : SymOk (256 + (j : Int)) := .inr ⟨j, h, rfl⟩
theorem roads_lt : ∀ ds ∈ roads15, ∀ d ∈ ds, d < 2 := by decide
theorem Keep.get {n l : Nat} {σ σ' : Sto} (a : Keep n σ σ') (h : l < n) {o : AObj} (e : σ.get l = some o) : σ'.get l = some o := (a.1 l h).trans e
theorem due_looks {br : Nat → List Int} (G : GOk br) {n L : Nat} {m : Fm} {σ : Sto} {P : Fl × Fm × Sto → Prop} (hr : m "roads" = some (.loc L)) (hl : m "leads" = some (leadsA br)) (h0 : σ.get L = some (.list (rp 7))) (hL : L < σ.nx)
    (hP : ∀ σ', Keep σ.nx σ σ' → P (.next, m.set "looks" (looksA br), σ')) : Sat (ex cfgP (F (n + 1)) dueLooks scD m σ) P := by
  refine x_assign rfl (by kernel_rfl) (q_listcomp (by kernel_rfl) (q_src rfl ?_))
  refine .eq (a := (.range 0 4, σ)) (by kernel_rfl) ?_
  refine compA_inv (xs := [.int 0, .int 1, .int 2, .int 3]) (I := fun i b => b.1 = ⟨.ki [], ((List.range 4).take i).map (rowA br)⟩ ∧ Keep σ.nx σ b.2) ⟨by kernel_rfl, by kernel_rfl⟩ ⟨rfl, Keep.refl⟩ (fun i b h => by kernel_rfl) (fun b h => ?_) (fun i b hi h => ?_)
  · obtain ⟨acc, σ'⟩ := b
    obtain ⟨h1, h2⟩ := h
    simp only at h1
    subst h1
    exact hP σ' h2
  · obtain ⟨acc, σ'⟩ := b
    obtain ⟨h1, h2⟩ := h
    simp only at h1 h2
    subst h1
    have hi4 : i < 4 := hi
    have ex0 : ([.int 0, .int 1, .int 2, .int 3] : List AV)[i] = .int (i : Int) := by
      have : i = 0 ∨ i = 1 ∨ i = 2 ∨ i = 3 := by omega
      rcases this with rfl | rfl | rfl | rfl <;> rfl
    rw [ex0]
    refine .eq rfl (t_trs0 ?_)
    rw [if_pos rfl]
    refine q_gens0 (q_emitL (q_listcomp (by kernel_rfl) (q_src rfl (q_name (v := .loc L) (Eq.trans (b := m "roads") (by kernel_rfl) hr) ?_))))
    refine compA_inv (xs := rp 7) (I := fun k b => b.1 = ⟨.ki [], ((rowL br i).take k).map optA⟩ ∧ Keep σ.nx σ b.2) ⟨by kernel_rfl, by kernel_rfl⟩ ⟨rfl, h2⟩ (fun k b h => ?_) (fun b h => ?_) (fun k b hk h => ?_)
    · show items? b.2 (.loc L) = some (rp 7)
      simp only [items?, h.2.get hL h0]
    · obtain ⟨acc, σ2⟩ := b
      obtain ⟨h3, h4⟩ := h
      simp only at h3 h4
      subst h3
      have hlen : (rp 7).length = (rowL br i).length := by simp [rp, rowL, roads15]
      rw [hlen, List.take_length]
      refine ⟨by simp; omega, ?_, h4⟩
      have : i = 0 ∨ i = 1 ∨ i = 2 ∨ i = 3 := by omega
      rcases this with rfl | rfl | rfl | rfl <;> kernel_rfl
    · obtain ⟨acc, σ2⟩ := b
      obtain ⟨h3, h4⟩ := h
      simp only at h3 h4
      subst h3
      have hk15 : k < roads15.length := hk
      have ex1 : (rp 7)[k] = .str (roadS roads15[k]) := by simp [rp]
      refine .eq (a := ((inner _ ((inner _ m).set "n" (.int (i : Int)))).set "road" (.str (roadS roads15[k])))) (by rw [show (rp 7)[k]'hk = .str (roadS roads15[k]) from ex1]; rfl) (t_trs0 ?_)
      have hrow : ((rowL br i).take (k + 1)) = (rowL br i).take k ++ [there br (256 + (i : Int)) roads15[k]] := by
        rw [List.take_succ]
        congr 1
        simp [rowL, List.getElem?_map, List.getElem?_eq_getElem hk15]
      have hds := roads_lt _ (List.getElem_mem hk15)
      generalize roads15[k] = ds at *
      rw [if_pos rfl]
      refine q_gens0 (q_emitL (q_call rfl (g := .glob "_law_there") (by kernel_rfl) (q_cons (q_name (Eq.trans (b := m "leads") (by kernel_rfl) hl) (q_cons (q_bin (.eq rfl (q_name (v := .int (i : Int)) (by kernel_rfl) (.eq rfl (q_cons (q_name (v := .str (roadS ds)) (by kernel_rfl) (q_nil ?_))))))))))))
      refine (call_there G (n := n) (symName_ok hi4) hds).mono fun r hr => ?_
      subst hr
      refine ⟨?_, ?_, h4.trans (Keep.upto h4.2)⟩
      · simp [rowL, roads15]; omega
      · rw [hrow]; simp
end Mine
set_option maxRecDepth 100000
namespace Mine
open PySem PyProof.Rows
def dueUnlike : Stmt := ((bodyOf (defAt pw 63))[3]?).getD (.Pass default)
theorem toPys_rows {br : Nat → List Int} : ∀ {ns : List Nat}, toPys 7 (ns.map (rowA br)) = some (ns.map fun n => .list ((rowL br n).map optPy))
  | [] => rfl
  | n :: ns => by
    have h1 : toPy 7 (rowA br n) = some (.list ((rowL br n).map optPy)) := by simp [rowA, toPy, toPys_opt]
    simp [toPys, h1, toPys_rows]
theorem mem_rows {br : Nat → List Int} {σ : Sto} {n : Nat} {ns : List Nat} : memA σ (rowA br n) (.list (ns.map (rowA br))) = some (ns.any fun m => decide (rowL br m = rowL br n)) := by
  have h1 : toPy 8 (shallow σ (rowA br n)) = some (.list ((rowL br n).map optPy)) := by simp [rowA, shallow, toPy, toPys_opt]
  simp only [memA, lst?, Option.bind_some, toPys_rows, h1, Option.map_some, List.any_map]
  congr 1
  congr 1
  funext m
  simp [PyData.eqv, eqvAll_opt]
theorem due_unlike {br : Nat → List Int} {Φ : Fns} {m : Fm} {σ : Sto} {P : Fl × Fm × Sto → Prop} (hl : m "looks" = some (looksA br)) (hP : P (.next, m.set "unlike" (.int (unlikeL br).length), σ)) : Sat (ex cfgP Φ dueUnlike scD m σ) P := by
  refine x_assign rfl (by kernel_rfl) (q_call rfl (g := .bi "len") (by kernel_rfl) (q_cons (q_listcomp (by kernel_rfl) (q_src rfl ?_))))
  refine .eq (a := (.range 0 4, σ)) (by kernel_rfl) ?_
  refine compA_inv (xs := [.int 0, .int 1, .int 2, .int 3]) (I := fun i b => b = (⟨.ki [], ((List.range i).filter fun n => !((List.range n).any fun m => decide (rowL br m = rowL br n))).map fun (n : Nat) => AV.int (n : Int)⟩, σ)) ⟨by kernel_rfl, by kernel_rfl⟩ rfl (fun i b h => by kernel_rfl) (fun b h => ?_) (fun i b hi h => ?_)
  · subst h
    refine q_nil (.eq (a := (.int (unlikeL br).length, σ)) ?_ hP)
    show some (AV.int ((((List.range 4).filter fun n => !((List.range n).any fun m => decide (rowL br m = rowL br n))).map fun (n : Nat) => AV.int (n : Int)).length : Nat), σ) = _
    rw [List.length_map]
    rfl
  · subst h
    have hi4 : i < 4 := hi
    have ex0 : ([.int 0, .int 1, .int 2, .int 3] : List AV)[i]'hi = .int (i : Int) := by
      have : i = 0 ∨ i = 1 ∨ i = 2 ∨ i = 3 := by omega
      rcases this with rfl | rfl | rfl | rfl <;> rfl
    have hrow : ∀ {σ : Sto}, getA σ (looksA br) (.int (i : Int)) = some (rowA br i) := fun {σ} => by
      have : i = 0 ∨ i = 1 ∨ i = 2 ∨ i = 3 := by omega
      rcases this with rfl | rfl | rfl | rfl <;> kernel_rfl
    have hcut : ∀ {p : Pos} {σ : Sto}, sliceA cfgP p σ (looksA br) none (some (i : Int)) = some (mkL cfgP p ((List.range i).map (rowA br)) σ) := fun {p σ} => by
      have : i = 0 ∨ i = 1 ∨ i = 2 ∨ i = 3 := by omega
      rcases this with rfl | rfl | rfl | rfl <;> kernel_rfl
    rw [ex0]
    refine .eq rfl (t_trs1 (t_cmp (q_sub rfl (q_name (Eq.trans (b := m "looks") (by kernel_rfl) hl) (q_name (v := .int (i : Int)) (by kernel_rfl) (.eq hrow (q_slice (q_name (Eq.trans (b := m "looks") (by kernel_rfl) hl) (q_none (q_some (q_name (v := .int (i : Int)) (by kernel_rfl) (.eq rfl (.eq rfl (.eq hcut ?_)))))))))))))) 
    have hmk : ∀ (q : Pos) (xs : List AV), cfgP.mu q = false → mkL cfgP q xs σ = (.list xs, σ) := fun q xs h => by unfold mkL; rw [h]; rfl
    rw [hmk _ _ (by kernel_rfl)]
    refine .eq (a := !((List.range i).any fun m => decide (rowL br m = rowL br i))) ?_ ?_
    · show (memA σ (rowA br i) (.list ((List.range i).map (rowA br)))).map (!·) = _
      rw [mem_rows]; rfl
    · have hfil : (List.range (i + 1)).filter (fun n => !((List.range n).any fun m => decide (rowL br m = rowL br n))) = (List.range i).filter (fun n => !((List.range n).any fun m => decide (rowL br m = rowL br n))) ++ if (!((List.range i).any fun m => decide (rowL br m = rowL br i))) = true then [i] else [] := by
        rw [List.range_succ, List.filter_append]
        congr 1
        cases h : (!((List.range i).any fun m => decide (rowL br m = rowL br i))) <;> simp [h]
      split
      · rename_i q
        simp only at q
        refine q_gens0 (q_emitL (q_name (v := .int (i : Int)) (by kernel_rfl) ⟨?_, ?_⟩))
        · have := List.length_filter_le (fun n => !((List.range n).any fun m => decide (rowL br m = rowL br n))) (List.range i)
          simp at this ⊢
          omega
        · rw [hfil, if_pos q, List.map_append]
          rfl
      · rename_i q
        simp only at q
        rw [hfil, if_neg q, List.append_nil]
end Mine
set_option maxRecDepth 100000
namespace Mine
open PySem PyProof.Rows
def dueFor : Stmt := ((bodyOf (defAt pw 63))[5]?).getD (.Pass default)
def dueParts : Stmt := match dueFor with
  | .For _ _ b _ _ => (b[0]?).getD (.Pass default)
  | _ => .Pass default
def dueApp : Stmt := match dueFor with
  | .For _ _ b _ _ => (b[1]?).getD (.Pass default)
  | _ => .Pass default
theorem eqA_opt {σ : Sto} {x y : Option Int} : eqA σ (optA x) (optA y) = some (decide (x = y)) := by
  have : ∀ x y : Option Int, eqA σ (optA x) (optA y) = some (PyData.eqv (optPy x) (optPy y)) := fun x y => by cases x <;> cases y <;> rfl
  rw [this, eqv_opt]
def ints15 : List AV := (List.range 15).map fun (i : Nat) => AV.int (i : Int)
theorem row_at {br : Nat → List Int} {σ : Sto} {n k : Nat} (hk : k < 15) : getA σ (rowA br n) (.int (k : Int)) = some (optA ((rowL br n).getD k none)) := by
  have hl : k < (rowL br n).length := by simp [rowL, roads15]; omega
  refine getA_list ?_
  rw [List.getElem?_map, List.getElem?_eq_getElem hl]
  simp [List.getD, List.getElem?_eq_getElem hl]
theorem looks_at {br : Nat → List Int} {σ : Sto} {n : Nat} (hn : n < 4) : getA σ (looksA br) (.int (n : Int)) = some (rowA br n) := by
  have : n = 0 ∨ n = 1 ∨ n = 2 ∨ n = 3 := by omega
  rcases this with rfl | rfl | rfl | rfl <;> kernel_rfl
theorem rp_at {k : Nat} (hk : k < 15) : (rp 7)[k]? = some (.str (roadS (roads15.getD k []))) := by
  have hl : k < roads15.length := hk
  have : rp 7 = roads15.map fun ds => AV.str (roadS ds) := rfl
  rw [this, List.getElem?_map, List.getElem?_eq_getElem hl]
  simp [List.getD, List.getElem?_eq_getElem hl]
theorem due_parts {br : Nat → List Int} {Φ : Fns} {m : Fm} {σ : Sto} {L : Nat} {q : Nat × Nat} {P : Fl × Fm × Sto → Prop} (hq : q.1 < 4 ∧ q.2 < 4) (hr : m "roads" = some (.loc L)) (hL : σ.get L = some (.list (rp 7))) (hl : m "looks" = some (looksA br))
    (hu : m "unlike" = some (.int (unlikeL br).length)) (h1 : m "one" = some (.int (256 + (q.1 : Int)))) (h2 : m "other" = some (.int (256 + (q.2 : Int))))
    (hP : P (.next, m.set "parts" (.list (((List.range 15).filter (pk br q)).map fun (k : Nat) => .int (k : Int))), σ)) : Sat (ex cfgP Φ dueParts scD m σ) P := by
  refine x_assign rfl (by kernel_rfl) (q_listcomp (by kernel_rfl) (q_src rfl ?_))
  refine .eq (a := (.range 0 15, σ)) (by kernel_rfl) ?_
  refine compA_inv (xs := ints15) (I := fun i b => b = (⟨.ki [], ((List.range i).filter (pk br q)).map fun (k : Nat) => AV.int (k : Int)⟩, σ)) ⟨by kernel_rfl, by kernel_rfl⟩ rfl (fun i b h => by kernel_rfl) (fun b h => ?_) (fun i b hi h => ?_)
  · subst h
    exact hP
  · subst h
    have hi15 : i < 15 := by simpa [ints15] using hi
    have ex0 : ints15[i]'hi = .int (i : Int) := by simp [ints15]
    rw [ex0]
    refine .eq rfl (t_trs1 (t_bool (t_and (t_cmp (q_call rfl (g := .bi "len") (by kernel_rfl) (q_cons (q_sub rfl (q_name (Eq.trans (b := m "roads") (by kernel_rfl) hr) (q_name (v := .int (i : Int)) (by kernel_rfl) (.eq (getA_loc hL (rp_at hi15)) (q_nil ?_)))))))))))
    have hds : (roads15.getD i []).length ≤ 3 := by
      have : ∀ k, k < 15 → (roads15.getD k []).length ≤ 3 := by decide
      exact this i hi15
    have hpk : pk br q i = (decide ((roads15.getD i []).length < (unlikeL br).length) && decide ((rowL br q.1).getD i none ≠ (rowL br q.2).getD i none)) := rfl
    have hfil : (List.range (i + 1)).filter (pk br q) = (List.range i).filter (pk br q) ++ if pk br q i = true then [i] else [] := by
      rw [List.range_succ, List.filter_append]
      congr 1
      cases h : pk br q i <;> simp [h]
    refine .eq (a := (.int ((roads15.getD i []).length : Nat), σ)) ?_ ?_
    · show (if (roadS (roads15.getD i [])).length < 2 ^ 40 then some (AV.int (roadS (roads15.getD i [])).length, σ) else none) = _
      have : (roadS (roads15.getD i [])).length = (roads15.getD i []).length := by
        show ((roads15.getD i []).map (48 + ·)).toArray.size = _
        simp
      rw [this, if_pos (by omega)]
    refine q_name (Eq.trans (b := m "unlike") (by kernel_rfl) hu) (.eq rfl ?_)
    generalize (roads15.getD i []).length = len at *
    by_cases hlt : len < (unlikeL br).length
    · rw [if_pos (by simpa using hlt)]
      have ho : ∀ {p p' p'' : Pos} {k : Nat} {sc : Scope} {m' : Fm} {B : AV × Sto → Prop} {x : Str} {a : Nat}, look cfgP sc m' x = some (.int (256 + (a : Int))) → B (.int (a : Int), σ) → Sat (ev cfgP Φ (.BinOp (.Name x p) .Sub (.Constant (.int 256) k p') p'') sc m' σ) B := fun hx hB =>
        q_bin (q_name hx (.eq rfl (.eq (a := (.int _, σ)) (show some (AV.int (256 + _ - 256), σ) = _ by congr 3; omega) hB)))
      refine t_and (t_cmp (q_sub rfl (q_sub rfl (q_name (Eq.trans (b := m "looks") (by kernel_rfl) hl) (ho (Eq.trans (b := m "one") (by kernel_rfl) h1) (.eq (looks_at hq.1) (q_name (v := .int (i : Int)) (by kernel_rfl) (.eq (row_at hi15) ?_))))))))
      refine q_sub rfl (q_sub rfl (q_name (Eq.trans (b := m "looks") (by kernel_rfl) hl) (ho (Eq.trans (b := m "other") (by kernel_rfl) h2) (.eq (looks_at hq.2) (q_name (v := .int (i : Int)) (by kernel_rfl) (.eq (row_at hi15) ?_))))))
      refine .eq (a := !decide ((rowL br q.1).getD i none = (rowL br q.2).getD i none)) ?_ ?_
      · show (eqA σ _ _).map (!·) = _
        rw [eqA_opt]; rfl
      have hb : pk br q i = !decide ((rowL br q.1).getD i none = (rowL br q.2).getD i none) := by rw [hpk, decide_eq_true hlt, Bool.true_and, decide_not]
      rw [← hb]
      cases hp : pk br q i with
      | true =>
        rw [if_pos rfl]
        refine t_nil ?_
        rw [if_pos (by rfl)]
        refine q_gens0 (q_emitL (q_name (v := .int (i : Int)) (by kernel_rfl) ⟨?_, ?_⟩))
        · have := List.length_filter_le (pk br q) (List.range i)
          simp at this ⊢
          omega
        · rw [hfil, hp, if_pos rfl, List.map_append]
          rfl
      | false =>
        rw [if_neg (by simp)]
        rw [if_neg (by simp)]
        rw [hp, if_neg (by simp), List.append_nil] at hfil
        rw [hfil]
    · rw [if_neg (by simpa using hlt)]
      have : pk br q i = false := by rw [hpk, decide_eq_false hlt]; rfl
      rw [if_neg (by simp)]
      rw [this, if_neg (by simp), List.append_nil] at hfil
      rw [hfil]
end Mine
set_option maxRecDepth 100000
namespace Mine
open PySem PyProof.Rows
theorem toPys_ints {k : Nat} : ∀ {xs : List Int}, toPys k (xs.map AV.int) = some (xs.map PyData.int)
  | [] => by cases k <;> rfl
  | x :: xs => by
    have h1 : toPy k (AV.int x) = some (.int x) := by cases k <;> rfl
    simp [toPys, h1, toPys_ints]
theorem due_app {br : Nat → List Int} {Φ : Fns} {m : Fm} {σ : Sto} {L D : Nat} {q : Nat × Nat} {ds : List AV} {P : Fl × Fm × Sto → Prop} (hr : m "roads" = some (.loc L)) (hL : σ.get L = some (.list (rp 7))) (hd : m "due" = some (.loc D)) (hD : σ.get D = some (.list ds)) (hlen : ds.length < 2 ^ 20)
    (hp : m "parts" = some (.list (((List.range 15).filter (pk br q)).map fun (k : Nat) => .int (k : Int)))) (hP : P (.next, m, σ.upd D (.list (ds ++ [dueA (due br q)])))) : Sat (ex cfgP Φ dueApp scD m σ) P := by
  have hres : resM σ (.loc D) "append" = some (.append D) := by simp only [resM, hD]; rfl
  refine x_expr rfl (q_meth (by decide) (q_name (Eq.trans (b := m "due") (by kernel_rfl) hd) (.eq hres (q_cons (q_if (t_cmp (q_name (Eq.trans (b := m "parts") (by kernel_rfl) hp) (.eq (a := (.list [], σ)) (by kernel_rfl) ?_))))))))
  have hrun : ∀ {p : Pos} {v : AV}, runM cfgP p Φ (.append D) [v] σ = some (.none, σ.upd D (.list (ds ++ [v]))) := fun {p v} => by
    show (match σ.get D with
      | some (.list xs) => if xs.length < 2 ^ 20 then some (AV.none, σ.upd D (.list (xs ++ [v]))) else none
      | _ => none) = _
    rw [hD]
    show (if ds.length < 2 ^ 20 then _ else none) = _
    rw [if_pos hlen]
  have hfind : (List.range 15).find? (pk br q) = ((List.range 15).filter (pk br q)).head? := by rw [List.head?_filter]
  have hmem : ∀ k ∈ (List.range 15).filter (pk br q), k < 15 := fun k hk => List.mem_range.mp (List.mem_filter.mp hk).1
  have hdue : due br q = (((List.range 15).filter (pk br q)).head?).map fun k => roads15.getD k [] := by rw [due, hfind]
  generalize (List.range 15).filter (pk br q) = ks at *
  cases ks with
  | nil =>
    refine .eq (a := false) (by kernel_rfl) ?_
    rw [if_neg (by simp)]
    refine .eq rfl (q_nil (.eq hrun ?_))
    rw [hdue] at hP
    exact hP
  | cons k0 ks =>
    refine .eq (a := true) ?_ ?_
    · show ((toPy 8 (shallow σ (.list ((k0 :: ks).map fun (k : Nat) => AV.int (k : Int))))).bind fun a => (toPy 8 (shallow σ (.list []))).map fun b => PyData.eqv a b).map (!·) = _
      have : toPy 8 (shallow σ (.list ((k0 :: ks).map fun (k : Nat) => AV.int (k : Int)))) = some (.list ((k0 :: ks).map fun (k : Nat) => PyData.int (k : Int))) := by
        have z := toPys_ints (k := 7) (xs := (k0 :: ks).map fun (k : Nat) => (k : Int))
        rw [List.map_map, List.map_map] at z
        show (toPys 7 ((k0 :: ks).map fun (k : Nat) => AV.int (k : Int))).map PyData.list = _
        rw [show (fun (k : Nat) => AV.int (k : Int)) = AV.int ∘ (fun (k : Nat) => (k : Int)) from rfl, z]
        rfl
      rw [this]
      rfl
    · rw [if_pos (by rfl)]
      refine q_sub rfl (q_name (Eq.trans (b := m "roads") (by kernel_rfl) hr) (q_sub rfl (q_name (Eq.trans (b := m "parts") (by kernel_rfl) hp) (.eq rfl (.eq (getA_list (i := 0) rfl) (.eq (getA_loc hL (rp_at (hmem k0 List.mem_cons_self))) (q_nil (.eq hrun ?_))))))))
      rw [hdue] at hP
      exact hP
end Mine
set_option maxRecDepth 100000
namespace Mine
open PySem PyProof.Rows
def qA (q : Nat × Nat) : AV := .tuple [.int (256 + (q.1 : Int)), .int (256 + (q.2 : Int))]
theorem ld_q {m : Fm} : look cfgP scD m "questions" = m "questions" := by kernel_rfl
theorem ld_due {m : Fm} : look cfgP scD m "due" = m "due" := by kernel_rfl
theorem call_due {br : Nat → List Int} (G : GOk br) {n : Nat} {qs : List (Nat × Nat)} (hq : ∀ q ∈ qs, q.1 < 4 ∧ q.2 < 4) (hql : qs.length ≤ 1000) {σ : Sto} :
    Sat (F (n + 2) "_law_due" [leadsA br, .list (qs.map qA)] σ) fun r => r.1 = .list (qs.map fun q => dueA (due br q)) ∧ Keep σ.nx σ r.2 := by
  rw [F_def (i := 63) (by decide) (by kernel_rfl)]
  refine sat_call (by kernel_rfl) ?_
  refine x_cons (by kernel_rfl) (x_assign rfl (by kernel_rfl) (.eq (a := (.loc σ.nx, σ.new (.list (rp 0)))) (by kernel_rfl) ?_))
  refine x_cons (by kernel_rfl) (due_roads (σ := σ) (L := σ.nx) (by kernel_rfl) (Nat.le_refl _) new_get (Keep.new (Nat.le_refl _)) fun m1 σ1 r1 f1 g1 k1 n1 => ?_)
  have hl1 : m1 "leads" = some (leadsA br) := (f1 _ (by decide) (by decide)).trans (by kernel_rfl)
  have hq1 : m1 "questions" = some (.list (qs.map qA)) := (f1 _ (by decide) (by decide)).trans (by kernel_rfl)
  have hn1 : σ.nx < σ1.nx := by rw [n1]; exact Nat.lt_succ_self _
  refine x_cons (by kernel_rfl) (due_looks G (n := n) r1 hl1 g1 hn1 fun σ2 k2 => ?_)
  refine x_cons (by kernel_rfl) (due_unlike (br := br) (by kernel_rfl) ?_)
  have g2 := k2.get hn1 g1
  have hn2 : σ.nx < σ2.nx := Nat.lt_of_lt_of_le hn1 k2.2
  have k02 : Keep σ.nx σ σ2 := k1.trans (k2.less (Nat.le_of_lt hn1))
  refine x_cons (by kernel_rfl) (x_assign rfl (by kernel_rfl) (.eq (a := (.loc σ2.nx, σ2.new (.list []))) (by kernel_rfl) ?_))
  refine x_cons (by kernel_rfl) ?_
  refine x_for (xs := qs.map qA) (I := fun i s => s.1 "roads" = some (.loc σ.nx) ∧ s.1 "looks" = some (looksA br) ∧ s.1 "unlike" = some (.int (unlikeL br).length) ∧ s.1 "due" = some (.loc σ2.nx) ∧ s.2.get σ.nx = some (.list (rp 7)) ∧
    s.2.get σ2.nx = some (.list ((qs.take i).map fun q => dueA (due br q))) ∧ Keep σ.nx σ s.2) ?_
  refine q_name (v := .list (qs.map qA)) (ld_q.trans ?_) ⟨rfl, ⟨?_, ?_, ?_, ?_, ?_, new_get, k02.trans (Keep.new (Nat.le_of_lt hn2))⟩, fun i s h => rfl, fun s h => ?_, fun i s hi h => ?_⟩
  · exact Eq.trans (b := m1 "questions") (by kernel_rfl) hq1
  · exact Eq.trans (b := m1 "roads") (by kernel_rfl) r1
  · kernel_rfl
  · kernel_rfl
  · kernel_rfl
  · exact (Keep.new (n := σ2.nx) (Nat.le_refl _)).get hn2 g2
  · obtain ⟨m3, σ3⟩ := s
    obtain ⟨h1, h2, h3, h4, h5, h6, h7⟩ := h
    simp only at h1 h2 h3 h4 h5 h6 h7
    rw [List.length_map, List.take_length] at h6
    refine x_consF (x := "due") (by kernel_rfl) h4 h6 (x_return (q_name (v := .list (qs.map fun q => dueA (due br q))) (by kernel_rfl) ⟨rfl, ?_⟩))
    exact (h7.trans (Keep.forget (Nat.le_of_lt hn2))).trans (Keep.upto (Nat.le_refl _))
  · obtain ⟨m3, σ3⟩ := s
    obtain ⟨h1, h2, h3, h4, h5, h6, h7⟩ := h
    simp only at h1 h2 h3 h4 h5 h6 h7
    rw [List.length_map] at hi
    have hqi := hq _ (List.getElem_mem hi)
    have htk : qs.take (i + 1) = qs.take i ++ [qs[i]] := by rw [List.take_add_one, List.getElem?_eq_getElem hi]; rfl
    have ex0 : (qs.map qA)[i]'(by simpa using hi) = qA qs[i] := by simp
    rw [ex0]
    generalize qs[i] = q at *
    refine .eq (a := (m3.set "one" (.int (256 + (q.1 : Int)))).set "other" (.int (256 + (q.2 : Int)))) rfl ?_
    refine x_cons (by kernel_rfl) (due_parts (br := br) (L := σ.nx) (q := q) hqi ?_ h5 ?_ ?_ ?_ ?_ ?_)
    · exact Eq.trans (b := m3 "roads") (by kernel_rfl) h1
    · exact Eq.trans (b := m3 "looks") (by kernel_rfl) h2
    · exact Eq.trans (b := m3 "unlike") (by kernel_rfl) h3
    · kernel_rfl
    · kernel_rfl
    refine x_cons (by kernel_rfl) (due_app (br := br) (L := σ.nx) (D := σ2.nx) (q := q) ?_ h5 ?_ h6 ?_ ?_ ?_)
    · exact Eq.trans (b := m3 "roads") (by kernel_rfl) h1
    · exact Eq.trans (b := m3 "due") (by kernel_rfl) h4
    · simp; omega
    · kernel_rfl
    refine x_nil ⟨?_, ?_, ?_, ?_, ?_, ?_, h7.trans (Keep.upd (Nat.le_of_lt hn2))⟩
    · exact Eq.trans (b := m3 "roads") (by kernel_rfl) h1
    · exact Eq.trans (b := m3 "looks") (by kernel_rfl) h2
    · exact Eq.trans (b := m3 "unlike") (by kernel_rfl) h3
    · exact Eq.trans (b := m3 "due") (by kernel_rfl) h4
    · exact (Keep.upd (n := σ2.nx) (Nat.le_refl _)).get hn2 h5
    · rw [htk, List.map_append]; exact upd_at
end Mine
set_option maxRecDepth 100000
namespace Mine
open PySem PyProof.Rows
theorem signs_chars : ∀ {cs : List Nat}, (∀ x ∈ cs, x < 0x110000) → signs? (chars cs) = some cs
  | [], _ => rfl
  | c :: cs, h => by
    show (if c < 0x110000 then (signs? (chars cs)).map (c :: ·) else none) = _
    rw [if_pos (h c List.mem_cons_self), signs_chars fun x hx => h x (List.mem_cons_of_mem _ hx)]
    rfl
theorem get_word {n l lf : Nat} {ln : Int} {cs tok rest : List Nat} {k : Nat} {σ : Sto} (h1 : σ.get l = some (.lexer ln lf [])) (h2 : σ.get lf = some (.list (chars cs))) (hlt : ∀ x ∈ cs, x < 0x110000) (hlen : cs.length < 2 ^ 20) (ht : token cs 0 = (tok, rest, k)) :
    F (n + 1) "get_token" [.loc l] σ = some (.str ⟨tok.toArray⟩, lexAt σ l lf (ln + (k : Nat)) rest) := by
  show primGet [.loc l] σ = _
  simp only [primGet, h1, h2, signs_chars hlt, Option.bind_eq_bind, Option.bind_some, ht]
  rw [if_pos hlen]
  rfl
theorem get_pushed {n l lf : Nat} {ln : Int} {t : AV} {ts : List AV} {σ : Sto} (h1 : σ.get l = some (.lexer ln lf (t :: ts))) : F (n + 1) "get_token" [.loc l] σ = some (t, σ.upd l (.lexer ln lf ts)) := by
  show primGet [.loc l] σ = _
  simp only [primGet, h1]
theorem push_word {n l lf : Nat} {ln : Int} {t : AV} {ts : List AV} {σ : Sto} (h1 : σ.get l = some (.lexer ln lf ts)) (hlen : ts.length < 2 ^ 20) : F (n + 1) "push_token" [.loc l, t] σ = some (.none, σ.upd l (.lexer ln lf (ts ++ [t]))) := by
  show primPush [.loc l, t] σ = _
  simp only [primPush, h1]
  rw [if_pos hlen]
/-- the store while a question is looked at -/
structure AS (s : Sto) (l lf : Nat) (ln : Int) (cs : List Nat) (push : List AV) (A : Nat) (ans : List AV) (S : Nat) (seen : List AV) : Prop where
  lex : s.get l = some (.lexer ln lf push)
  left : s.get lf = some (.list (chars cs))
  ansF : s.get A = some (.list ans)
  seenF : s.get S = some (.list seen)
  l1 : l < s.nx
  l2 : lf < s.nx
  l3 : A < s.nx
  l4 : S < s.nx
  n1 : lf ≠ A
  n2 : lf ≠ S
  n3 : A ≠ S
  tab : ∃ b, s.get 0 = some (.tab b)
section
variable {s s' : Sto} {l lf A S a : Nat} {ln : Int} {cs : List Nat} {push ans seen : List AV} {o : AObj}
theorem AS.keep (h : AS s l lf ln cs push A ans S seen) (k : Keep s.nx s s') : AS s' l lf ln cs push A ans S seen :=
  ⟨k.get h.l1 h.lex, k.get h.l2 h.left, k.get h.l3 h.ansF, k.get h.l4 h.seenF, Nat.lt_of_lt_of_le h.l1 k.2, Nat.lt_of_lt_of_le h.l2 k.2, Nat.lt_of_lt_of_le h.l3 k.2, Nat.lt_of_lt_of_le h.l4 k.2, h.n1, h.n2, h.n3, h.tab.imp fun _ e => k.get (Nat.lt_of_le_of_lt (Nat.zero_le _) h.l1) e⟩
theorem AS.upto (h : AS s l lf ln cs push A ans S seen) : AS (s.upto s.nx) l lf ln cs push A ans S seen := h.keep (Keep.upto (Nat.le_refl _))
theorem AS.new (h : AS s l lf ln cs push A ans S seen) : AS (s.new o) l lf ln cs push A ans S seen := h.keep (Keep.new (Nat.le_refl _))
theorem AS.lA (h : AS s l lf ln cs push A ans S seen) : A ≠ l := fun q => by have := h.ansF; rw [q, h.lex] at this; cases this
theorem AS.lS (h : AS s l lf ln cs push A ans S seen) : S ≠ l := fun q => by have := h.seenF; rw [q, h.lex] at this; cases this
theorem AS.llf (h : AS s l lf ln cs push A ans S seen) : lf ≠ l := fun q => by have := h.left; rw [q, h.lex] at this; cases this
theorem upd_ne {b : Nat} (h : b ≠ a) : (s.upd a o).get b = s.get b := by simp [Sto.upd, h]
theorem AS.z1 (h : AS s l lf ln cs push A ans S seen) : 0 ≠ l := fun q => by obtain ⟨b, e⟩ := h.tab; rw [q, h.lex] at e; cases e
theorem AS.z2 (h : AS s l lf ln cs push A ans S seen) : 0 ≠ lf := fun q => by obtain ⟨b, e⟩ := h.tab; rw [q, h.left] at e; cases e
theorem AS.z3 (h : AS s l lf ln cs push A ans S seen) : 0 ≠ A := fun q => by obtain ⟨b, e⟩ := h.tab; rw [q, h.ansF] at e; cases e
theorem AS.z4 (h : AS s l lf ln cs push A ans S seen) : 0 ≠ S := fun q => by obtain ⟨b, e⟩ := h.tab; rw [q, h.seenF] at e; cases e
theorem AS.setPush {push' : List AV} {ln' : Int} (h : AS s l lf ln cs push A ans S seen) : AS (s.upd l (.lexer ln' lf push')) l lf ln' cs push' A ans S seen :=
  ⟨upd_at, (upd_ne h.llf).trans h.left, (upd_ne h.lA).trans h.ansF, (upd_ne h.lS).trans h.seenF, h.l1, h.l2, h.l3, h.l4, h.n1, h.n2, h.n3, h.tab.imp fun _ e => (upd_ne h.z1).trans e⟩
theorem AS.at_ {cs' : List Nat} {ln' : Int} (h : AS s l lf ln cs push A ans S seen) : AS (lexAt s l lf ln' cs') l lf ln' cs' [] A ans S seen :=
  ⟨lexAt_get, lexAt_left h.llf, ((upd_ne h.lA).trans (upd_ne h.n1.symm)).trans h.ansF, ((upd_ne h.lS).trans (upd_ne h.n2.symm)).trans h.seenF, h.l1, h.l2, h.l3, h.l4, h.n1, h.n2, h.n3, h.tab.imp fun _ e => ((upd_ne h.z1).trans (upd_ne h.z2)).trans e⟩
theorem AS.setSeen {seen' : List AV} (h : AS s l lf ln cs push A ans S seen) : AS (s.upd S (.list seen')) l lf ln cs push A ans S seen' :=
  ⟨(upd_ne h.lS.symm).trans h.lex, (upd_ne h.n2).trans h.left, (upd_ne h.n3).trans h.ansF, upd_at, h.l1, h.l2, h.l3, h.l4, h.n1, h.n2, h.n3, h.tab.imp fun _ e => (upd_ne h.z4).trans e⟩
theorem AS.setAns {ans' : List AV} (h : AS s l lf ln cs push A ans S seen) : AS (s.upd A (.list ans')) l lf ln cs push A ans' S seen :=
  ⟨(upd_ne h.lA.symm).trans h.lex, (upd_ne h.n1).trans h.left, upd_at, (upd_ne h.n3.symm).trans h.seenF, h.l1, h.l2, h.l3, h.l4, h.n1, h.n2, h.n3, h.tab.imp fun _ e => (upd_ne h.z3).trans e⟩
/-- another place is written -/
theorem AS.other (h : AS s l lf ln cs push A ans S seen) (h1 : a ≠ l) (h2 : a ≠ lf) (h3 : a ≠ A) (h4 : a ≠ S) (h5 : 0 ≠ a) : AS (s.upd a o) l lf ln cs push A ans S seen :=
  ⟨(upd_ne h1.symm).trans h.lex, (upd_ne h2.symm).trans h.left, (upd_ne h3.symm).trans h.ansF, (upd_ne h4.symm).trans h.seenF, h.l1, h.l2, h.l3, h.l4, h.n1, h.n2, h.n3, h.tab.imp fun _ e => (upd_ne h5).trans e⟩
end
end Mine
set_option maxRecDepth 100000
namespace Mine
open PySem PyProof.Rows
abbrev scA : Scope := (defP 61).scope
def whileBody : Stmt → List Stmt
  | .While _ b _ _ => b
  | _ => []
def ifBody : Stmt → List Stmt
  | .If _ b _ _ => b
  | _ => []
def stAt (l : List Stmt) (i : Nat) : Stmt := (l[i]?).getD (.Pass default)
def ansOuter : Stmt := stAt (bodyOf (defAt pw 61)) 1
def ansInner : Stmt := stAt (whileBody ansOuter) 1
def ansIf2 : Stmt := stAt (whileBody ansInner) 7
def ansGrow : Stmt := stAt (ifBody ansIf2) 2
/-- a triple that waits -/
abbrev Trip := List Nat × Int × Int
def tw (W : Int → Str) (t : Trip) : List AV := [.str (roadS t.1), .str (W t.2.1), .str (W t.2.2)]
def flat (W : Int → Str) (Q : List Trip) : List AV := Q.flatMap (tw W)
def newQ (r : List Nat) (bx bz : List Int) : List Trip := (List.range (min bx.length bz.length)).map fun i => (r ++ [i], bx.getD i 0, bz.getD i 0)
/-- the words of the symbols -/
structure WOk (Sy : Int → Prop) (W : Int → Str) (told wr : AV) : Prop where
  sym : ∀ {n : Nat} {σ : Sto} {s : Int}, Sy s → F (n + 1) "_law_symbol" [.str (W s), told] σ = some (.int s, σ.upto σ.nx)
  wr : ∀ {σ : Sto} {s : Int}, Sy s → s ≠ 0 → getA σ wr (.int s) = some (.str (W s))
theorem rule_get {br : Nat → List Int} {σ : Sto} {j i : Nat} (hi : i ≤ (br j).length) : getA σ (ruleA br j) (.int ((i : Int) + 1)) = some (.int ((br j).getD i 0)) := by
  have : getA σ (ruleA br j) (.int ((i + 1 : Nat) : Int)) = some (.int ((br j).getD i 0)) := by
    refine getA_list ?_
    rw [List.getElem?_map]
    show ((br j ++ [0])[i]?).map AV.int = _
    by_cases h : i < (br j).length
    · rw [List.getElem?_append_left h, List.getElem?_eq_getElem h]
      simp [List.getD, List.getElem?_eq_getElem h]
    · have : i = (br j).length := by omega
      subst this
      simp [List.getD]
  exact this
theorem road_add {c : Cfg} {p : Pos} {σ : Sto} {r : List Nat} {d : Nat} (hr : r.length ≤ 1000) : binA c p .Add (.str (roadS r)) (.str ⟨#[48 + d]⟩) σ = some (.str (roadS (r ++ [d])), σ) := by
  show (if (roadS r).length + (⟨#[48 + d]⟩ : Str).length ≤ sizeLine then some (AV.str (roadS r ++ ⟨#[48 + d]⟩), σ) else none) = _
  rw [if_pos]
  · congr 3
    show (⟨((r.map (48 + ·)).toArray ++ #[48 + d])⟩ : Str) = ⟨((r ++ [d]).map (48 + ·)).toArray⟩
    simp
  · show (r.map (48 + ·)).toArray.size + 1 ≤ 16777216
    simp; omega
theorem ans_grow {br : Nat → List Int} (G : GOk br) {Sy : Int → Prop} {W : Int → Str} {told wr : AV} (H : WOk Sy W told wr) (hSy : ∀ k, k < 4 → ∀ s ∈ br k, Sy s ∧ s ≠ 0) {n jx jz : Nat} (hx : jx < 4) (hz : jz < 4) {r : List Nat} (hr : r.length ≤ 1000)
    {m : Fm} {σ : Sto} {l lf A S Lf : Nat} {ln : Int} {cs : List Nat} {push ans seen : List AV} (a : AS σ l lf ln cs push A ans S seen) (hLf : σ.get Lf = some (.list [])) (hlt : Lf < σ.nx) (n1 : Lf ≠ l) (n2 : Lf ≠ lf) (n3 : Lf ≠ A) (n4 : Lf ≠ S)
    (h1 : m "here" = some (ruleA br jx)) (h2 : m "there" = some (ruleA br jz)) (h3 : m "k" = some (.int 1)) (h4 : m "fresh" = some (.loc Lf)) (h5 : m "road" = some (.str (roadS r))) (h6 : m "written" = some wr)
    {P : Fl × Fm × Sto → Prop} (hP : ∀ m' σ', (∀ x : Str, x ≠ "k" → x ≠ "fresh" → m' x = m x) → m' "fresh" = some (.loc Lf) → m' "k" = some (.int (((min (br jx).length (br jz).length : Nat) : Int) + 1)) → AS σ' l lf ln cs push A ans S seen → σ'.get Lf = some (.list (flat W (newQ r (br jx) (br jz)))) → σ.nx ≤ σ'.nx → P (.next, m', σ')) :
    Sat (ex cfgP (F (n + 1)) ansGrow scA m σ) P := by
  have hx2 := G.len jx hx
  have hz2 := G.len jz hz
  let wl : Nat → List AV := fun i => flat W ((List.range i).map fun i => (r ++ [i], (br jx).getD i 0, (br jz).getD i 0))
  refine x_while (n := min (br jx).length (br jz).length) (I := fun q s => ∃ i, i + q = min (br jx).length (br jz).length ∧ (∀ x : Str, x ≠ "k" → x ≠ "fresh" → s.1 x = m x) ∧ s.1 "fresh" = some (.loc Lf) ∧ s.1 "k" = some (.int ((i : Int) + 1)) ∧ AS s.2 l lf ln cs push A ans S seen ∧
    s.2.get Lf = some (.list (wl i)) ∧ σ.nx ≤ s.2.nx) (by show _ < 100000; omega) ⟨0, by omega, fun _ _ _ => rfl, h4, h3, a, hLf, Nat.le_refl _⟩ (fun q s h => ?_)
  obtain ⟨m2, σ2⟩ := s
  obtain ⟨i, hi, f1, f2, f3, a2, g2, nx2⟩ := h
  simp only at f1 f2 f3 a2 g2 nx2
  have e1 : m2 "here" = some (ruleA br jx) := (f1 _ (by decide) (by decide)).trans h1
  have e2 : m2 "there" = some (ruleA br jz) := (f1 _ (by decide) (by decide)).trans h2
  have e5 : m2 "road" = some (.str (roadS r)) := (f1 _ (by decide) (by decide)).trans h5
  have e6 : m2 "written" = some wr := (f1 _ (by decide) (by decide)).trans h6
  refine t_bool (t_and (t_not (t_plain rfl (q_call rfl (g := .glob "ISEOF") (by kernel_rfl) (q_cons (q_sub rfl (q_name (Eq.trans (b := m2 "here") (by kernel_rfl) e1) (q_name (Eq.trans (b := m2 "k") (by kernel_rfl) f3) (.eq (rule_get (by omega)) (q_nil (.eq call_iseof (.eq rfl ?_))))))))))))
  have heq : ∀ x : Int, PyData.eqv (.int x) (.int 0) = (x == 0) := fun x => by simp [PyData.eqv]
  have hlen : ∀ {b : List Int} {j : Nat}, b.length ≤ j → b.getD j 0 = 0 := fun h => by simp [List.getD, List.getElem?_eq_none h]
  have hin : ∀ {b : List Int} {j : Nat}, j < b.length → b.getD j 0 ∈ b := fun {b j} h => by
    simp [List.getD, List.getElem?_eq_getElem h]
  simp only [heq]
  have hend : ∀ σ3, Keep σ2.nx σ2 σ3 → i = min (br jx).length (br jz).length → P (.next, m2, σ3) := fun σ3 k hi' => by
    subst hi'
    exact hP m2 σ3 f1 f2 f3 (a2.keep k) ((k.get (Nat.lt_of_lt_of_le hlt nx2) g2)) (Nat.le_trans nx2 k.2)
  have k1 : Keep σ2.nx σ2 (σ2.upto σ2.nx) := Keep.upto (Nat.le_refl _)
  by_cases hxi : i < (br jx).length
  · have hx0 := (hSy jx hx _ (hin hxi)).2
    rw [beq_eq_false_iff_ne.mpr hx0]
    rw [if_pos (by rfl)]
    refine t_and (t_not (t_plain rfl (q_call rfl (g := .glob "ISEOF") (by kernel_rfl) (q_cons (q_sub rfl (q_name (Eq.trans (b := m2 "there") (by kernel_rfl) e2) (q_name (Eq.trans (b := m2 "k") (by kernel_rfl) f3) (.eq (rule_get (by omega)) (q_nil (.eq call_iseof (.eq rfl ?_)))))))))))
    simp only [heq]
    have k2 : Keep σ2.nx σ2 ((σ2.upto σ2.nx).upto (σ2.upto σ2.nx).nx) := k1.trans (Keep.upto (Nat.le_refl _))
    by_cases hzi : i < (br jz).length
    · have hz0 := (hSy jz hz _ (hin hzi)).2
      rw [beq_eq_false_iff_ne.mpr hz0]
      rw [if_pos (by rfl)]
      refine t_nil ?_
      rw [if_pos (by rfl)]
      have hstr : ∀ {c : Cfg} {Φ : Fns} {p : Pos} {σ : Sto}, callV c Φ p (.bi "str") [.int ((i : Int) + 1 - 1)] σ = some (.str ⟨#[48 + i]⟩, σ) := fun {c Φ p σ} => by
        have : i = 0 ∨ i = 1 := by omega
        rcases this with rfl | rfl <;> kernel_rfl
      refine x_cons (by kernel_rfl) (x_aug (v := .loc Lf) (Eq.trans (b := m2 "fresh") (by kernel_rfl) f2) (by kernel_rfl) (q_list (by decide) (q_cons (q_bin (q_name (Eq.trans (b := m2 "road") (by kernel_rfl) e5) (q_call rfl (g := .bi "str") (by kernel_rfl) (q_cons (q_bin (q_name (Eq.trans (b := m2 "k") (by kernel_rfl) f3) (.eq rfl (.eq rfl (q_nil (.eq hstr (.eq (road_add hr) ?_))))))))))))))
      refine q_cons (q_sub rfl (q_name (Eq.trans (b := m2 "written") (by kernel_rfl) e6) (q_sub rfl (q_name (Eq.trans (b := m2 "here") (by kernel_rfl) e1) (q_name (Eq.trans (b := m2 "k") (by kernel_rfl) f3) (.eq (rule_get (by omega)) (.eq (H.wr (hSy jx hx _ (hin hxi)).1 hx0) ?_)))))))
      refine q_cons (q_sub rfl (q_name (Eq.trans (b := m2 "written") (by kernel_rfl) e6) (q_sub rfl (q_name (Eq.trans (b := m2 "there") (by kernel_rfl) e2) (q_name (Eq.trans (b := m2 "k") (by kernel_rfl) f3) (.eq (rule_get (by omega)) (.eq (H.wr (hSy jz hz _ (hin hzi)).1 hz0) (q_nil ?_))))))))
      have g3 := k2.get (Nat.lt_of_lt_of_le hlt nx2) g2
      have a3 := a2.keep k2
      have nx3 : σ.nx ≤ ((σ2.upto σ2.nx).upto (σ2.upto σ2.nx).nx).nx := nx2
      generalize ((σ2.upto σ2.nx).upto (σ2.upto σ2.nx).nx) = σ3 at *
      have hwl : wl (i + 1) = wl i ++ tw W (r ++ [i], (br jx).getD i 0, (br jz).getD i 0) := by
        simp only [wl, flat, List.range_succ, List.map_append, List.flatMap_append, List.map_cons, List.map_nil, List.flatMap_cons, List.flatMap_nil, List.append_nil]
      have hwlen : (wl i).length ≤ 6 := by
        have : i = 0 ∨ i = 1 := by omega
        rcases this with rfl | rfl <;> simp [wl, flat, tw, List.range_succ]
      refine .eq (a := (.loc Lf, σ3.upd Lf (.list (wl (i + 1))))) ?_ ?_
      · rw [hwl]
        show (match σ3.get Lf with
          | some (.list xs) => (lst? σ3 (AV.list (tw W (r ++ [i], (br jx).getD i 0, (br jz).getD i 0)))).bind fun ys => if xs.length + ys.length ≤ 2 ^ 20 then some (AV.loc Lf, σ3.upd Lf (.list (xs ++ ys))) else none
          | _ => none) = _
        rw [g3]
        show (if (wl i).length + 3 ≤ 2 ^ 20 then _ else none) = _
        rw [if_pos (by omega)]
      refine x_cons (by kernel_rfl) (x_aug (v := .int ((i : Int) + 1)) (Eq.trans (b := m2 "k") (by kernel_rfl) f3) (by kernel_rfl) (.eq rfl (.eq rfl (x_nil ?_))))
      refine ⟨q - 1, by omega, i + 1, by omega, fun x hx1 hx2 => ?_, by kernel_rfl, by kernel_rfl, a3.other n1 n2 n3 n4 (fun q => by obtain ⟨b, e⟩ := a3.tab; rw [q, g3] at e; cases e), upd_at, nx3⟩
      show ((m2.set "fresh" (.loc Lf)).set "k" (.int ((i : Int) + 1 + 1))) x = m x
      rw [Fm.set, if_neg hx1, Fm.set, if_neg hx2]
      exact f1 x hx1 hx2
    · rw [hlen (Nat.le_of_not_lt hzi)]
      rw [if_neg (by simp), if_neg (by simp)]
      exact hend _ k2 (by omega)
  · rw [hlen (Nat.le_of_not_lt hxi)]
    rw [if_neg (by simp), if_neg (by simp)]
    exact hend _ k1 (by omega)
end Mine
set_option maxRecDepth 100000
namespace Mine
open PySem PyProof.Rows
def ansPush : Stmt := stAt (whileBody ansInner) 0
/-- where the fresh words stand -/
inductive FreshAt (s : Sto) (fr : List AV) : AV → Prop
  | val : FreshAt s fr (.list fr)
  | loc {L : Nat} : s.get L = some (.list fr) → L < s.nx → FreshAt s fr (.loc L)
theorem FreshAt.items {s : Sto} {fr : List AV} {v : AV} (h : FreshAt s fr v) : items? s v = some fr := by
  cases h with
  | val => rfl
  | loc g _ => simp only [items?, g]
theorem FreshAt.lst {s : Sto} {fr : List AV} {v : AV} (h : FreshAt s fr v) : lst? s v = some fr := by
  cases h with
  | val => rfl
  | loc g _ => simp only [lst?, g]
theorem FreshAt.shal {s : Sto} {fr : List AV} {v : AV} (h : FreshAt s fr v) : shallow s v = .list fr := by
  cases h with
  | val => rfl
  | loc g _ => simp only [shallow, g]
theorem FreshAt.keep {s s' : Sto} {fr : List AV} {v : AV} (h : FreshAt s fr v) (k : Keep s.nx s s') : FreshAt s' fr v := by
  cases h with
  | val => exact .val
  | loc g l => exact .loc (k.get l g) (Nat.lt_of_lt_of_le l k.2)
theorem FreshAt.upd {s : Sto} {fr : List AV} {v : AV} {a : Nat} {o o' : AObj} (h : FreshAt s fr v) (ha : s.get a = some o') (hne : ∀ xs, o' ≠ .list xs) : FreshAt (s.upd a o) fr v := by
  cases h with
  | val => exact .val
  | @loc L g l =>
    refine .loc ?_ l
    rw [upd_ne]
    · exact g
    · rintro rfl
      rw [g] at ha
      injection ha with ha
      exact hne _ ha.symm
theorem ans_push {n : Nat} {m : Fm} {σ : Sto} {l lf A S : Nat} {ln : Int} {cs : List Nat} {push ans seen fr : List AV} {v : AV} (a : AS σ l lf ln cs push A ans S seen) (hf : FreshAt σ fr v) (hb : push.length + fr.length < 2 ^ 20)
    (h1 : m "fresh" = some v) (h2 : m "lexer" = some (.loc l)) {P : Fl × Fm × Sto → Prop} (hP : ∀ m' σ', (∀ x : Str, x ≠ "word" → m' x = m x) → AS σ' l lf ln cs (push ++ fr) A ans S seen → FreshAt σ' fr v → σ'.nx = σ.nx → P (.next, m', σ')) : Sat (ex cfgP (F (n + 1)) ansPush scA m σ) P := by
  refine x_for (xs := fr) (I := fun i s => (∀ x : Str, x ≠ "word" → s.1 x = m x) ∧ AS s.2 l lf ln cs (push ++ fr.take i) A ans S seen ∧ FreshAt s.2 fr v ∧ s.2.nx = σ.nx) ?_
  refine q_name (Eq.trans (b := m "fresh") (by kernel_rfl) h1) ⟨hf.items, ⟨fun _ _ => rfl, by simpa using a, hf, rfl⟩, fun i s h => h.2.2.1.items, fun s h => ?_, fun i s hi h => ?_⟩
  · obtain ⟨m2, σ2⟩ := s
    obtain ⟨f1, a2, g2, x2⟩ := h
    simp only at f1 a2 g2 x2
    rw [List.take_length] at a2
    exact hP m2 σ2 f1 a2 g2 x2
  · obtain ⟨m2, σ2⟩ := s
    obtain ⟨f1, a2, g2, x2⟩ := h
    simp only at f1 a2 g2 x2
    have htk : fr.take (i + 1) = fr.take i ++ [fr[i]] := by rw [List.take_add_one, List.getElem?_eq_getElem hi]; rfl
    refine .eq (a := m2.set "word" fr[i]) rfl ?_
    generalize fr[i] = w at *
    have hres : resM σ2 (.loc l) "push_token" = some (.lex l "push_token") := by simp only [resM, a2.lex]; rfl
    refine x_cons (by kernel_rfl) (x_expr rfl (q_meth (by decide) (q_name (v := .loc l) (Eq.trans (b := m2 "lexer") (by kernel_rfl) ((f1 _ (by decide)).trans h2)) (.eq hres (q_cons (q_name (v := w) (by kernel_rfl) (q_nil ?_)))))))
    refine .eq (push_word (n := n) a2.lex (by simp; omega)) (x_nil ⟨fun x hx => ?_, ?_, g2.upd a2.lex (fun xs q => by cases q), x2⟩)
    · show (m2.set "word" w) x = m x
      rw [Fm.set, if_neg hx]; exact f1 x hx
    · rw [htk, ← List.append_assoc]
      exact a2.setPush
end Mine
set_option maxRecDepth 100000
namespace Mine
open PySem PyProof.Rows
theorem len_fresh {c : Cfg} {Φ : Fns} {p : Pos} {s : Sto} {fr : List AV} {v : AV} (h : FreshAt s fr v) : callV c Φ p (.bi "len") [v] s = some (.int fr.length, s) := by
  cases h with
  | val => rfl
  | loc g l =>
    show ((lst? s (.loc _)).map fun xs => (AV.int xs.length, s)) = _
    simp only [lst?, g, Option.map_some]
structure QSt (W : Int → Str) (told wr : AV) (br : Nat → List Int) (l lf A S : Nat) (ln : Int) (cs : List Nat) (ans : List AV) (m : Fm) (s : Sto) (Q : List Trip) (found : Option (List Nat)) (seen : List Int) : Prop where
  lexer : m "lexer" = some (.loc l)
  leads : m "leads" = some (leadsA br)
  told : m "told" = some told
  written : m "written" = some wr
  answers : m "answers" = some (.loc A)
  seenM : m "seen" = some (.loc S)
  found : m "found" = some (dueA found)
  st : ∃ push fr v, m "fresh" = some v ∧ FreshAt s fr v ∧ m "waiting" = some (.int (push.length : Nat)) ∧ push ++ fr = flat W Q ∧ AS s l lf ln cs push A ans S (seen.map AV.int)
/-- what one turn does -/
def stepF (r : List Nat) (x y : Int) (found : Option (List Nat)) : Option (List Nat) := if found = none ∧ x ≠ y ∧ (x < 256 ∨ y < 256) then some r else found
def goes (r : List Nat) (x y : Int) (found : Option (List Nat)) (seen : List Int) : Prop := stepF r x y found = none ∧ 256 ≤ x ∧ 256 ≤ y ∧ (1000 * x + y) ∉ seen
instance {r x y found seen} : Decidable (goes r x y found seen) := by unfold goes; infer_instance
def ansIf1 : Stmt := stAt (whileBody ansInner) 6
theorem ans_take {br : Nat → List Int} {Sy : Int → Prop} {W : Int → Str} {told wr : AV} (H : WOk Sy W told wr) {n : Nat} {m : Fm} {σ : Sto} {l lf A S : Nat} {ln : Int} {cs : List Nat} {ans : List AV} {r : List Nat} {x y : Int} {Q : List Trip} {found : Option (List Nat)} {seen : List Int}
    (hx : Sy x) (hy : Sy y) (hb : (flat W ((r, x, y) :: Q)).length < 2 ^ 20) (q : QSt W told wr br l lf A S ln cs ans m σ ((r, x, y) :: Q) found seen) {X : Fl × Fm × Sto → Prop}
    (hP : ∀ m' σ' Lf, m' "lexer" = some (.loc l) → m' "leads" = some (leadsA br) → m' "told" = some told → m' "written" = some wr → m' "answers" = some (.loc A) → m' "seen" = some (.loc S) → m' "found" = some (dueA found) →
      m' "road" = some (.str (roadS r)) → m' "one" = some (.int x) → m' "other" = some (.int y) → m' "fresh" = some (.loc Lf) → m' "waiting" = some (.int ((flat W Q).length : Nat)) → σ'.get Lf = some (.list []) → Lf < σ'.nx → Lf ≠ l → Lf ≠ lf → Lf ≠ A → Lf ≠ S →
      AS σ' l lf ln cs (flat W Q) A ans S (seen.map AV.int) → Sat (exs cfgP (F (n + 1)) [ansIf1, ansIf2] scA m' σ') X) :
    Sat (exs cfgP (F (n + 1)) (whileBody ansInner) scA m σ) X := by
  obtain ⟨push, fr, v, h1, h2, h3, h4, a⟩ := q.st
  have hlen : (push ++ fr).length < 2 ^ 20 := by rw [h4]; exact hb
  rw [List.length_append] at hlen
  refine x_cons (by kernel_rfl) (ans_push a h2 hlen h1 q.lexer fun m1 σ1 f1 a1 g1 x1 => ?_)
  have e1 : m1 "fresh" = some v := (f1 _ (by decide)).trans h1
  have e2 : m1 "lexer" = some (.loc l) := (f1 _ (by decide)).trans q.lexer
  have e3 : m1 "waiting" = some (.int (push.length : Nat)) := (f1 _ (by decide)).trans h3
  have e4 : m1 "told" = some told := (f1 _ (by decide)).trans q.told
  have e5 : m1 "leads" = some (leadsA br) := (f1 _ (by decide)).trans q.leads
  have e6 : m1 "written" = some wr := (f1 _ (by decide)).trans q.written
  have e7 : m1 "answers" = some (.loc A) := (f1 _ (by decide)).trans q.answers
  have e8 : m1 "seen" = some (.loc S) := (f1 _ (by decide)).trans q.seenM
  have e9 : m1 "found" = some (dueA found) := (f1 _ (by decide)).trans q.found
  rw [h4] at a1
  have hfl : flat W ((r, x, y) :: Q) = .str (roadS r) :: .str (W x) :: .str (W y) :: flat W Q := rfl
  rw [hfl] at a1
  have hw : ((push.length : Nat) : Int) + ((fr.length : Nat) - 3) = (((flat W Q).length : Nat) : Int) := by
    have : push.length + fr.length = (flat W Q).length + 3 := by
      rw [← List.length_append, h4, hfl]; rfl
    omega
  refine x_cons (by kernel_rfl) (x_aug (v := .int (push.length : Nat)) (Eq.trans (b := m1 "waiting") (by kernel_rfl) e3) (by kernel_rfl) (q_bin (q_call rfl (g := .bi "len") (by kernel_rfl) (q_cons (q_name (Eq.trans (b := m1 "fresh") (by kernel_rfl) e1) (q_nil (.eq (len_fresh g1) (.eq rfl (.eq rfl (.eq rfl ?_))))))))))
  simp only
  rw [hw]
  have hres : ∀ {s : Sto} {p ts : List AV} , AS s l lf ln cs p A ans S (seen.map AV.int) → resM s (.loc l) "get_token" = some (.lex l "get_token") := fun h => by simp only [resM, h.lex]; rfl
  refine x_cons (by kernel_rfl) (x_assign rfl (by kernel_rfl) (q_meth (by decide) (q_name (Eq.trans (b := m1 "lexer") (by kernel_rfl) e2) (.eq (hres (ts := []) a1) (q_nil (.eq (get_pushed (n := n) a1.lex) ?_))))))
  have a2 := a1.setPush (ln' := ln) (push' := .str (W x) :: .str (W y) :: flat W Q)
  generalize σ1.upd l (.lexer ln lf (.str (W x) :: .str (W y) :: flat W Q)) = σ2 at *
  refine x_cons (by kernel_rfl) (x_assign rfl (by kernel_rfl) (q_call rfl (g := .glob "_law_symbol") (by kernel_rfl) (q_cons (q_meth (by decide) (q_name (Eq.trans (b := m1 "lexer") (by kernel_rfl) e2) (.eq (hres (ts := []) a2) (q_nil (.eq (get_pushed (n := n) a2.lex) (q_cons (q_name (Eq.trans (b := m1 "told") (by kernel_rfl) e4) (q_nil (.eq (H.sym (n := n) hx) ?_))))))))))))
  have a3 := (a2.setPush (ln' := ln) (push' := .str (W y) :: flat W Q)).upto
  simp only at a3 ⊢
  generalize (σ2.upd l (.lexer ln lf (.str (W y) :: flat W Q))).upto (σ2.upd l (.lexer ln lf (.str (W y) :: flat W Q))).nx = σ3 at *
  refine x_cons (by kernel_rfl) (x_assign rfl (by kernel_rfl) (q_call rfl (g := .glob "_law_symbol") (by kernel_rfl) (q_cons (q_meth (by decide) (q_name (Eq.trans (b := m1 "lexer") (by kernel_rfl) e2) (.eq (hres (ts := []) a3) (q_nil (.eq (get_pushed (n := n) a3.lex) (q_cons (q_name (Eq.trans (b := m1 "told") (by kernel_rfl) e4) (q_nil (.eq (H.sym (n := n) hy) ?_))))))))))))
  have a4 := (a3.setPush (ln' := ln) (push' := flat W Q)).upto
  simp only at a4 ⊢
  generalize (σ3.upd l (.lexer ln lf (flat W Q))).upto (σ3.upd l (.lexer ln lf (flat W Q))).nx = σ4 at *
  refine x_cons (by kernel_rfl) (x_assign rfl (by kernel_rfl) (.eq (a := (.loc σ4.nx, σ4.new (.list []))) (by kernel_rfl) ?_))
  have hne : ∀ {b : Nat}, b < σ4.nx → σ4.nx ≠ b := fun h => Nat.ne_of_gt h
  exact hP _ _ σ4.nx (Eq.trans (b := m1 "lexer") (by kernel_rfl) e2) (Eq.trans (b := m1 "leads") (by kernel_rfl) e5) (Eq.trans (b := m1 "told") (by kernel_rfl) e4) (Eq.trans (b := m1 "written") (by kernel_rfl) e6) (Eq.trans (b := m1 "answers") (by kernel_rfl) e7)
    (Eq.trans (b := m1 "seen") (by kernel_rfl) e8) (Eq.trans (b := m1 "found") (by kernel_rfl) e9) (by kernel_rfl) (by kernel_rfl) (by kernel_rfl) (by kernel_rfl) (by kernel_rfl) new_get (Nat.lt_succ_self _) (hne a4.l1) (hne a4.l2) (hne a4.l3) (hne a4.l4) a4.new
end Mine
set_option maxRecDepth 100000
namespace Mine
open PySem PyProof.Rows
theorem cmp_is {σ : Sto} {found : Option (List Nat)} : cmpA σ .Is (dueA found) .none = some found.isNone := by cases found <;> rfl
theorem cmp_ne {σ : Sto} {x y : Int} : cmpA σ .NotEq (.int x) (.int y) = some (decide (x ≠ y)) := by
  show (eqA σ (.int x) (.int y)).map (!·) = _
  show some (!(PyData.eqv (.int x) (.int y))) = _
  have : PyData.eqv (.int x) (.int y) = decide (x = y) := by
    simp only [PyData.eqv]
    by_cases h : x = y <;> simp [h]
  rw [this, decide_not]
theorem ans_if1 {n : Nat} {m : Fm} {σ : Sto} {r : List Nat} {x y : Int} {found : Option (List Nat)} (h1 : m "found" = some (dueA found)) (h2 : m "one" = some (.int x)) (h3 : m "other" = some (.int y)) (h4 : m "road" = some (.str (roadS r))) {P : Fl × Fm × Sto → Prop}
    (hP : ∀ m' σ', (∀ z : Str, z ≠ "found" → m' z = m z) → m' "found" = some (dueA (stepF r x y found)) → Keep σ.nx σ σ' → P (.next, m', σ')) : Sat (ex cfgP (F (n + 1)) ansIf1 scA m σ) P := by
  have no : stepF r x y found = found → ∀ σ', Keep σ.nx σ σ' → Sat (exs cfgP (F (n + 1)) [] scA m σ') P := fun e σ' k => x_nil (hP m σ' (fun _ _ => rfl) (by rw [e]; exact h1) k)
  have k1 : Keep σ.nx σ (σ.upto σ.nx) := Keep.upto (Nat.le_refl _)
  have k2 : Keep σ.nx σ ((σ.upto σ.nx).upto (σ.upto σ.nx).nx) := k1.trans (Keep.upto (Nat.le_refl _))
  have yes : stepF r x y found = some r → ∀ σ' b, Keep σ.nx σ σ' → b = ifBody ansIf1 → Sat (exs cfgP (F (n + 1)) b scA m σ') P := fun e σ' b k hb => by
    subst hb
    refine x_cons (by kernel_rfl) (x_assign rfl (by kernel_rfl) (q_name (Eq.trans (b := m "road") (by kernel_rfl) h4) (x_nil (hP _ σ' (fun z hz => ?_) ?_ k))))
    · show (m.set "found" _) z = _
      rw [Fm.set, if_neg hz]
    · rw [e]; kernel_rfl
  refine x_if (t_bool (t_and (t_cmp (q_name (Eq.trans (b := m "found") (by kernel_rfl) h1) (.eq rfl (.eq cmp_is ?_))))))
  cases hf : found with
  | some w =>
    rw [if_neg (by simp), if_neg (by simp)]
    exact no (by simp [stepF, hf]) _ Keep.refl
  | none =>
    rw [if_pos (by rfl)]
    refine t_and (t_cmp (q_name (Eq.trans (b := m "one") (by kernel_rfl) h2) (q_name (Eq.trans (b := m "other") (by kernel_rfl) h3) (.eq cmp_ne ?_))))
    by_cases hxy : x = y
    · rw [if_neg (by simp [hxy]), if_neg (by simp)]
      exact no (by simp [stepF, hxy]) _ Keep.refl
    · rw [if_pos (by simp [hxy])]
      refine t_and (t_bool (t_or (t_plain rfl (q_call rfl (g := .glob "ISTERMINAL") (by kernel_rfl) (q_cons (q_name (Eq.trans (b := m "one") (by kernel_rfl) h2) (q_nil (.eq call_isterm (.eq rfl ?_)))))))))
      by_cases hx : x < 256
      · rw [if_pos (by simpa using hx), if_pos (by rfl)]
        refine t_nil ?_
        rw [if_pos (by rfl)]
        exact yes (by simp [stepF, hf, hxy, hx]) _ _ k1 rfl
      · rw [if_neg (by simpa using hx)]
        refine t_or (t_plain rfl (q_call rfl (g := .glob "ISTERMINAL") (by kernel_rfl) (q_cons (q_name (Eq.trans (b := m "other") (by kernel_rfl) h3) (q_nil (.eq call_isterm (.eq rfl ?_)))))))
        by_cases hy : y < 256
        · rw [if_pos (by simpa using hy), if_pos (by rfl)]
          refine t_nil ?_
          rw [if_pos (by rfl)]
          exact yes (by simp [stepF, hf, hxy, hy]) _ _ k2 rfl
        · rw [if_neg (by simpa using hy)]
          refine t_nil ?_
          rw [if_neg (by simp), if_neg (by simp)]
          exact no (by simp [stepF, hxy, hx, hy, hf]) _ k2
end Mine
set_option maxRecDepth 100000
namespace Mine
open PySem PyProof.Rows
theorem mem_ints {σ : Sto} {S : Nat} {z : Int} {seen : List Int} (h : σ.get S = some (.list (seen.map AV.int))) : memA σ (.int z) (.loc S) = some (decide (z ∈ seen)) := by
  show ((lst? σ (.loc S)).bind fun xs => (toPys 7 xs).bind fun ds => (toPy 8 (.int z)).map fun d => ds.any fun y => PyData.eqv y d) = _
  simp only [lst?, h, Option.bind_some, toPys_ints]
  show some ((seen.map PyData.int).any fun y => PyData.eqv y (.int z)) = _
  congr 1
  rw [List.any_map, eq_comm, Bool.eq_iff_iff]
  simp [PyData.eqv]
def goes' (x y : Int) (f : Option (List Nat)) (seen : List Int) : Prop := f = none ∧ 256 ≤ x ∧ 256 ≤ y ∧ (1000 * x + y) ∉ seen
theorem ans_if2 {br : Nat → List Int} (G : GOk br) {Sy : Int → Prop} {W : Int → Str} {told wr : AV} (H : WOk Sy W told wr) (hSy : ∀ k, k < 4 → ∀ s ∈ br k, Sy s ∧ s ≠ 0) {n : Nat} {m : Fm} {σ : Sto} {l lf A S Lf : Nat} {ln : Int} {cs : List Nat} {push ans : List AV} {seen : List Int}
    {r : List Nat} (hr : r.length ≤ 1000) {x y : Int} {f : Option (List Nat)} (hx : 256 ≤ x → ∃ j : Nat, j < 4 ∧ x = 256 + (j : Int)) (hy : 256 ≤ y → ∃ j : Nat, j < 4 ∧ y = 256 + (j : Int)) (hsl : seen.length < 1000)
    (a : AS σ l lf ln cs push A ans S (seen.map AV.int)) (hLf : σ.get Lf = some (.list [])) (hlt : Lf < σ.nx) (n1 : Lf ≠ l) (n2 : Lf ≠ lf) (n3 : Lf ≠ A) (n4 : Lf ≠ S)
    (h1 : m "found" = some (dueA f)) (h2 : m "one" = some (.int x)) (h3 : m "other" = some (.int y)) (h4 : m "road" = some (.str (roadS r))) (h5 : m "leads" = some (leadsA br)) (h6 : m "written" = some wr) (h7 : m "seen" = some (.loc S)) (h8 : m "fresh" = some (.loc Lf))
    {P : Fl × Fm × Sto → Prop}
    (hno : ¬ goes' x y f seen → ∀ σ', Keep σ.nx σ σ' → P (.next, m, σ'))
    (hyes : goes' x y f seen → ∀ m' σ', (∀ z : Str, z ≠ "found" → z ≠ "here" → z ≠ "there" → z ≠ "k" → z ≠ "fresh" → m' z = m z) → m' "fresh" = some (.loc Lf) →
      m' "found" = some (dueA (if (br (x - 256).toNat).length = (br (y - 256).toNat).length then none else some r)) → σ'.get Lf = some (.list (flat W (newQ r (br (x - 256).toNat) (br (y - 256).toNat)))) →
      AS σ' l lf ln cs push A ans S ((seen ++ [1000 * x + y]).map AV.int) → σ.nx ≤ σ'.nx → P (.next, m', σ')) : Sat (ex cfgP (F (n + 1)) ansIf2 scA m σ) P := by
  have no : ¬ goes' x y f seen → ∀ σ', Keep σ.nx σ σ' → Sat (exs cfgP (F (n + 1)) [] scA m σ') P := fun e σ' k => x_nil (hno e σ' k)
  have k1 : Keep σ.nx σ (σ.upto σ.nx) := Keep.upto (Nat.le_refl _)
  have k2 : Keep σ.nx σ ((σ.upto σ.nx).upto (σ.upto σ.nx).nx) := k1.trans (Keep.upto (Nat.le_refl _))
  refine x_if (t_bool (t_and (t_cmp (q_name (Eq.trans (b := m "found") (by kernel_rfl) h1) (.eq rfl (.eq cmp_is ?_))))))
  cases hf : f with
  | some w =>
    rw [if_neg (by simp), if_neg (by simp)]
    exact no (by simp [goes', hf]) _ Keep.refl
  | none =>
  rw [if_pos (by rfl)]
  refine t_and (t_plain rfl (q_call rfl (g := .glob "ISNONTERMINAL") (by kernel_rfl) (q_cons (q_name (Eq.trans (b := m "one") (by kernel_rfl) h2) (q_nil (.eq call_isnon (.eq rfl ?_)))))))
  by_cases hx6 : 256 ≤ x
  rotate_left
  · rw [if_neg (by simpa using hx6), if_neg (by simp)]
    exact no (by simp [goes', hx6]) _ k1
  rw [if_pos (by simpa using hx6)]
  refine t_and (t_plain rfl (q_call rfl (g := .glob "ISNONTERMINAL") (by kernel_rfl) (q_cons (q_name (Eq.trans (b := m "other") (by kernel_rfl) h3) (q_nil (.eq call_isnon (.eq rfl ?_)))))))
  by_cases hy6 : 256 ≤ y
  rotate_left
  · rw [if_neg (by simpa using hy6), if_neg (by simp)]
    exact no (by simp [goes', hy6]) _ k2
  rw [if_pos (by simpa using hy6)]
  obtain ⟨jx, hjx, rfl⟩ := hx hx6
  obtain ⟨jy, hjy, rfl⟩ := hy hy6
  have a2 := a.keep k2
  have g2 := k2.get hlt hLf
  have lt2 : Lf < ((σ.upto σ.nx).upto (σ.upto σ.nx).nx).nx := Nat.lt_of_lt_of_le hlt k2.2
  have nx2 := k2.2
  simp only at ⊢
  generalize ((σ.upto σ.nx).upto (σ.upto σ.nx).nx) = σ2 at *
  generalize hzz : 1000 * (256 + (jx : Int)) + (256 + (jy : Int)) = zz at *
  have hmul : ∀ {p : Pos} {σ' : Sto}, binA cfgP p .Mult (.int 1000) (.int (256 + (jx : Int))) σ' = some (.int (1000 * (256 + (jx : Int))), σ') := fun {p σ'} => by
    show (if (1000 : Int).natAbs < 2 ^ 31 ∧ (256 + (jx : Int)).natAbs < 2 ^ 31 then _ else none) = _
    rw [if_pos ⟨by decide, by omega⟩]
  have hsum : ∀ {p : Pos} {σ' : Sto}, binA cfgP p .Add (.int (1000 * (256 + (jx : Int)))) (.int (256 + (jy : Int))) σ' = some (.int zz, σ') := fun {p σ'} => by rw [← hzz]; rfl
  have hni : cmpA σ2 .NotIn (.int zz) (.loc S) = some (!decide (zz ∈ seen)) := by
    show (memA σ2 (.int zz) (.loc S)).map (!·) = _
    rw [mem_ints a2.seenF]; rfl
  refine t_and (t_cmp (q_bin (q_bin (.eq rfl (q_name (Eq.trans (b := m "one") (by kernel_rfl) h2) (.eq hmul (q_name (Eq.trans (b := m "other") (by kernel_rfl) h3) (.eq hsum (q_name (Eq.trans (b := m "seen") (by kernel_rfl) h7) (.eq hni ?_))))))))))
  by_cases hin : zz ∈ seen
  · rw [if_neg (by simp [hin]), if_neg (by simp)]
    exact no (by simp [goes', hzz, hin]) _ k2
  rw [if_pos (by simp [hin])]
  refine t_nil ?_
  rw [if_pos (by rfl)]
  have hg : goes' (256 + (jx : Int)) (256 + (jy : Int)) f seen := ⟨hf, hx6, hy6, by rw [hzz]; exact hin⟩
  have jx2 : (256 + (jx : Int) - 256).toNat = jx := by omega
  have jy2 : (256 + (jy : Int) - 256).toNat = jy := by omega
  have hyes := hyes (hf ▸ hg)
  rw [jx2, jy2] at hyes
  have hres : resM σ2 (.loc S) "append" = some (.append S) := by simp only [resM, a2.seenF]; rfl
  have hrun : ∀ {p : Pos} {v : AV}, runM cfgP p (F (n + 1)) (.append S) [v] σ2 = some (.none, σ2.upd S (.list (seen.map AV.int ++ [v]))) := fun {p v} => by
    show (match σ2.get S with
      | some (.list xs) => if xs.length < 2 ^ 20 then some (AV.none, σ2.upd S (.list (xs ++ [v]))) else none
      | _ => none) = _
    rw [a2.seenF]
    show (if (seen.map AV.int).length < 2 ^ 20 then _ else none) = _
    rw [if_pos (by simp; omega)]
  refine x_cons (by kernel_rfl) (x_expr rfl (q_meth (by decide) (q_name (Eq.trans (b := m "seen") (by kernel_rfl) h7) (.eq hres (q_cons (q_bin (q_bin (.eq rfl (q_name (Eq.trans (b := m "one") (by kernel_rfl) h2) (.eq hmul (q_name (Eq.trans (b := m "other") (by kernel_rfl) h3) (.eq hsum (q_nil (.eq hrun ?_))))))))))))))
  have a3 := a2.setSeen (seen' := seen.map AV.int ++ [.int zz])
  have g3 : (σ2.upd S (.list (seen.map AV.int ++ [.int zz]))).get Lf = some (.list []) := (upd_ne n4).trans g2
  have lt3 : Lf < (σ2.upd S (.list (seen.map AV.int ++ [.int zz]))).nx := lt2
  have nx3 : σ.nx ≤ (σ2.upd S (.list (seen.map AV.int ++ [.int zz]))).nx := nx2
  simp only at ⊢
  generalize σ2.upd S (.list (seen.map AV.int ++ [.int zz])) = σ3 at *
  refine x_cons (by kernel_rfl) (x_assignT (by kernel_rfl) (q_tuple (by decide) (q_cons (q_sub rfl (q_name (Eq.trans (b := m "leads") (by kernel_rfl) h5) (q_name (Eq.trans (b := m "one") (by kernel_rfl) h2) (.eq (getA_leads hjx) (q_cons (q_sub rfl (q_name (Eq.trans (b := m "leads") (by kernel_rfl) h5) (q_name (Eq.trans (b := m "other") (by kernel_rfl) h3) (.eq (getA_leads hjy) (q_cons (.eq rfl (q_nil (.eq rfl ?_))))))))))))))))
  refine x_cons (by kernel_rfl) (ans_grow (n := n) G H hSy hjx hjy hr a3 g3 lt3 n1 n2 n3 n4 (by kernel_rfl) (by kernel_rfl) (by kernel_rfl) (Eq.trans (b := m "fresh") (by kernel_rfl) h8) (Eq.trans (b := m "road") (by kernel_rfl) h4) (Eq.trans (b := m "written") (by kernel_rfl) h6)
    fun m4 σ4 f4 r4 q4 a4 g4 nx4 => ?_)
  have e1 : m4 "here" = some (ruleA br jx) := (f4 _ (by decide) (by decide)).trans (by kernel_rfl)
  have e2 : m4 "there" = some (ruleA br jy) := (f4 _ (by decide) (by decide)).trans (by kernel_rfl)
  have e3 : m4 "road" = some (.str (roadS r)) := (f4 _ (by decide) (by decide)).trans (Eq.trans (b := m "road") (by kernel_rfl) h4)
  have e4 : m4 "found" = some (dueA none) := (f4 _ (by decide) (by decide)).trans (Eq.trans (b := m "found") (by kernel_rfl) (hf ▸ h1))
  have e5 : ∀ z : Str, z ≠ "found" → z ≠ "here" → z ≠ "there" → z ≠ "k" → z ≠ "fresh" → m4 z = m z := fun z z1 z2 z3 z4 z5 => by
    rw [f4 z z4 z5]
    show (((m.set "here" _).set "there" _).set "k" _) z = _
    rw [Fm.set, if_neg z4, Fm.set, if_neg z3, Fm.set, if_neg z2]
  have heq : ∀ x : Int, PyData.eqv (.int x) (.int 0) = (x == 0) := fun x => by simp [PyData.eqv]
  have lt4 : Lf < σ4.nx := Nat.lt_of_lt_of_le lt3 nx4
  have nx5 : σ.nx ≤ σ4.nx := Nat.le_trans nx3 nx4
  have k5 : Keep σ4.nx σ4 ((σ4.upto σ4.nx).upto (σ4.upto σ4.nx).nx) := (Keep.upto (Nat.le_refl _)).trans (Keep.upto (Nat.le_refl _))
  have hend : ∀ {b : List Int} {i : Nat}, i ≤ b.length → (∀ s ∈ b, s ≠ 0) → ((b.getD i 0) == 0) = decide (i = b.length) := fun {b i} hi h0 => by
    by_cases h : i < b.length
    · have : b.getD i 0 ∈ b := by simp [List.getD, List.getElem?_eq_getElem h]
      rw [beq_eq_false_iff_ne.mpr (h0 _ this), decide_eq_false (by omega)]
    · have : i = b.length := by omega
      subst this
      simp [List.getD]
  refine x_cons (by kernel_rfl) (x_if (t_cmp (q_call rfl (g := .glob "ISEOF") (by kernel_rfl) (q_cons (q_sub rfl (q_name (Eq.trans (b := m4 "here") (by kernel_rfl) e1) (q_name (Eq.trans (b := m4 "k") (by kernel_rfl) q4) (.eq (rule_get (Nat.min_le_left _ _)) (q_nil (.eq call_iseof ?_))))))))))
  refine q_call rfl (g := .glob "ISEOF") (by kernel_rfl) (q_cons (q_sub rfl (q_name (Eq.trans (b := m4 "there") (by kernel_rfl) e2) (q_name (Eq.trans (b := m4 "k") (by kernel_rfl) q4) (.eq (rule_get (Nat.min_le_right _ _)) (q_nil (.eq call_iseof ?_)))))))
  simp only [heq]
  rw [hend (Nat.min_le_left _ _) fun s hs => (hSy jx hjx s hs).2, hend (Nat.min_le_right _ _) fun s hs => (hSy jy hjy s hs).2]
  have a5 := a4.keep k5
  have g5 := k5.get lt4 g4
  have nx6 := k5.2
  generalize ((σ4.upto σ4.nx).upto (σ4.upto σ4.nx).nx) = σ5 at *
  have hmap : seen.map AV.int ++ [AV.int zz] = (seen ++ [zz]).map AV.int := by simp
  rw [hmap] at a5
  have hbl : (decide (min (br jx).length (br jy).length = (br jx).length) == decide (min (br jx).length (br jy).length = (br jy).length)) = decide ((br jx).length = (br jy).length) := by
    by_cases h : (br jx).length = (br jy).length
    · simp [h]
    · rw [decide_eq_false h]
      by_cases h2 : (br jx).length < (br jy).length
      · rw [decide_eq_true (by omega), decide_eq_false (by omega)]; rfl
      · rw [decide_eq_false (by omega), decide_eq_true (by omega)]; rfl
  refine .eq (a := !decide ((br jx).length = (br jy).length)) ?_ ?_
  · show (some (_ == _)).map (!·) = _
    rw [hbl]; rfl
  by_cases hl : (br jx).length = (br jy).length
  · rw [if_neg (by simp [hl])]
    refine x_nil (x_nil (hyes m4 σ5 e5 r4 ?_ g5 a5 (Nat.le_trans nx5 nx6)))
    rw [if_pos hl]; exact e4
  · rw [if_pos (by simp [hl])]
    refine x_cons (by kernel_rfl) (x_assign rfl (by kernel_rfl) (q_name (Eq.trans (b := m4 "road") (by kernel_rfl) e3) (x_nil (x_nil (hyes (m4.set "found" (.str (roadS r))) σ5 (fun z z1 z2 z3 z4 z5 => ?_) ?_ ?_ g5 a5 (Nat.le_trans nx5 nx6))))))
    · rw [Fm.set, if_neg z1]; exact e5 z z1 z2 z3 z4 z5
    · exact Eq.trans (b := m4 "fresh") (by kernel_rfl) r4
    · rw [if_neg hl]; kernel_rfl
end Mine
set_option maxRecDepth 100000
namespace Mine
open PySem PyProof.Rows
instance {x y : Int} {f : Option (List Nat)} {seen : List Int} : Decidable (goes' x y f seen) := by unfold goes'; infer_instance
/-- the queue, what is found, what was seen, after a turn -/
def turnQ (br : Nat → List Int) (r : List Nat) (x y : Int) (found : Option (List Nat)) (seen : List Int) : List Trip :=
  if goes' x y (stepF r x y found) seen then newQ r (br (x - 256).toNat) (br (y - 256).toNat) else []
def turnF (br : Nat → List Int) (r : List Nat) (x y : Int) (found : Option (List Nat)) (seen : List Int) : Option (List Nat) :=
  if goes' x y (stepF r x y found) seen then (if (br (x - 256).toNat).length = (br (y - 256).toNat).length then none else some r) else stepF r x y found
def turnS (r : List Nat) (x y : Int) (found : Option (List Nat)) (seen : List Int) : List Int :=
  if goes' x y (stepF r x y found) seen then seen ++ [1000 * x + y] else seen
theorem flat_append {W : Int → Str} {Q R : List Trip} : flat W (Q ++ R) = flat W Q ++ flat W R := by simp [flat]
theorem ans_turn {br : Nat → List Int} (G : GOk br) {Sy : Int → Prop} {W : Int → Str} {told wr : AV} (H : WOk Sy W told wr) (hSy : ∀ k, k < 4 → ∀ s ∈ br k, Sy s ∧ s ≠ 0) (hNt : ∀ x, Sy x → 256 ≤ x → ∃ j : Nat, j < 4 ∧ x = 256 + (j : Int)) {n : Nat} {m : Fm} {σ : Sto} {l lf A S : Nat} {ln : Int} {cs : List Nat} {ans : List AV}
    {r : List Nat} {x y : Int} {Q : List Trip} {found : Option (List Nat)} {seen : List Int} (hx : Sy x) (hy : Sy y) (hr : r.length ≤ 1000) (hsl : seen.length < 1000) (hb : (flat W ((r, x, y) :: Q)).length < 2 ^ 20) (q : QSt W told wr br l lf A S ln cs ans m σ ((r, x, y) :: Q) found seen) {X : Fl × Fm × Sto → Prop}
    (hP : ∀ m' σ', QSt W told wr br l lf A S ln cs ans m' σ' (Q ++ turnQ br r x y found seen) (turnF br r x y found seen) (turnS r x y found seen) → X (.next, m', σ')) : Sat (exs cfgP (F (n + 1)) (whileBody ansInner) scA m σ) X := by
  refine ans_take H hx hy hb q fun m1 σ1 Lf b1 b2 b3 b4 b5 b6 b7 b8 b9 b10 b11 b12 g1 lt1 n1 n2 n3 n4 a1 => ?_
  refine x_cons (by kernel_rfl) (ans_if1 b7 b9 b10 b8 fun m2 σ2 f2 c2 k2 => ?_)
  have a2 := a1.keep k2
  have g2 := k2.get lt1 g1
  have lt2 := Nat.lt_of_lt_of_le lt1 k2.2
  refine x_cons (by kernel_rfl) (ans_if2 (n := n) G H hSy hr (fun h => hNt x hx h) (fun h => hNt y hy h) hsl a2 g2 lt2 n1 n2 n3 n4 c2 ((f2 _ (by decide)).trans b9) ((f2 _ (by decide)).trans b10) ((f2 _ (by decide)).trans b8) ((f2 _ (by decide)).trans b2) ((f2 _ (by decide)).trans b4) ((f2 _ (by decide)).trans b6) ((f2 _ (by decide)).trans b11)
    (fun hg σ3 k3 => x_nil (hP m2 σ3 ?_)) fun hg m3 σ3 f3 r3 c3 g3 a3 nx3 => x_nil (hP m3 σ3 ?_))
  · rw [turnQ, if_neg hg, turnF, if_neg hg, turnS, if_neg hg, List.append_nil]
    exact ⟨(f2 _ (by decide)).trans b1, (f2 _ (by decide)).trans b2, (f2 _ (by decide)).trans b3, (f2 _ (by decide)).trans b4, (f2 _ (by decide)).trans b5, (f2 _ (by decide)).trans b6, c2,
      flat W Q, [], .loc Lf, (f2 _ (by decide)).trans b11, .loc (k3.get lt2 g2) (Nat.lt_of_lt_of_le lt2 k3.2), (f2 _ (by decide)).trans b12, List.append_nil _, a2.keep k3⟩
  · rw [turnQ, if_pos hg, turnF, if_pos hg, turnS, if_pos hg]
    have ff : ∀ z : Str, z ≠ "found" → z ≠ "here" → z ≠ "there" → z ≠ "k" → z ≠ "fresh" → m3 z = m1 z := fun z z1 z2 z3 z4 z5 => (f3 z z1 z2 z3 z4 z5).trans (f2 z z1)
    refine ⟨(ff _ (by decide) (by decide) (by decide) (by decide) (by decide)).trans b1, (ff _ (by decide) (by decide) (by decide) (by decide) (by decide)).trans b2, (ff _ (by decide) (by decide) (by decide) (by decide) (by decide)).trans b3, (ff _ (by decide) (by decide) (by decide) (by decide) (by decide)).trans b4,
      (ff _ (by decide) (by decide) (by decide) (by decide) (by decide)).trans b5, (ff _ (by decide) (by decide) (by decide) (by decide) (by decide)).trans b6, c3, flat W Q, flat W (newQ r (br (x - 256).toNat) (br (y - 256).toNat)), .loc Lf, r3, .loc g3 (Nat.lt_of_lt_of_le lt2 nx3), (ff _ (by decide) (by decide) (by decide) (by decide) (by decide)).trans b12, flat_append.symm, a3⟩
end Mine
set_option maxRecDepth 100000
namespace Mine
open PySem PyProof.Rows
def StrsOk (fr : List AV) : Prop := ∀ v ∈ fr, ∃ s, v = .str s ∧ PyData.strOk s = true
theorem toPys_strs {k : Nat} : ∀ {fr : List AV}, StrsOk fr → ∃ ds, toPys k fr = some ds ∧ ds.length = fr.length
  | [], _ => ⟨[], by cases k <;> rfl, rfl⟩
  | v :: fr, h => by
    obtain ⟨ds, h1, h2⟩ := toPys_strs (k := k) (fr := fr) fun w hw => h w (List.mem_cons_of_mem _ hw)
    obtain ⟨s, rfl, hs⟩ := h v List.mem_cons_self
    have h3 : toPy k (.str s) = some (.str s) := by cases k <;> simp [toPy, hs]
    exact ⟨.str s :: ds, by simp [toPys, h3, h1], by simp [h2]⟩
theorem cmp_fresh {σ : Sto} {fr : List AV} {v : AV} (h : FreshAt σ fr v) (hs : StrsOk fr) : cmpA σ .NotEq v (.list []) = some (!fr.isEmpty) := by
  have e : eqA σ v (.list []) = (toPy 8 (shallow σ v)).bind fun a => (toPy 8 (shallow σ (.list []))).map fun b => PyData.eqv a b := by cases h <;> rfl
  show (eqA σ v (.list [])).map (!·) = _
  rw [e, h.shal]
  obtain ⟨ds, h1, h2⟩ := toPys_strs (k := 7) hs
  have : toPy 8 (.list fr) = some (.list ds) := by simp [toPy, h1]
  rw [this]
  show some (!(PyData.eqv (.list ds) (.list []))) = _
  cases fr with
  | nil =>
    have : ds = [] := List.length_eq_zero_iff.mp h2
    subst this; rfl
  | cons v fr =>
    cases ds with
    | nil => simp at h2
    | cons d ds => rfl
theorem ans_inner {br : Nat → List Int} (G : GOk br) {Sy : Int → Prop} {W : Int → Str} {told wr : AV} (H : WOk Sy W told wr) (hSy : ∀ k, k < 4 → ∀ s ∈ br k, Sy s ∧ s ≠ 0) (hNt : ∀ x, Sy x → 256 ≤ x → ∃ j : Nat, j < 4 ∧ x = 256 + (j : Int)) {n : Nat} {m : Fm} {σ : Sto} {l lf A S : Nat} {ln : Int} {cs : List Nat} {ans : List AV}
    {Q : List Trip} {found : Option (List Nat)} {seen : List Int} {J : List Trip → Option (List Nat) → List Int → Prop} {μ : List Trip → List Int → Nat} (hJ0 : J Q found seen) (hμ : μ Q seen < 100000) (hstr : ∀ Q f s, J Q f s → StrsOk (flat W Q))
    (hJ : ∀ r x y Q f s, J ((r, x, y) :: Q) f s → Sy x ∧ Sy y ∧ r.length ≤ 1000 ∧ s.length < 1000 ∧ (flat W ((r, x, y) :: Q)).length < 2 ^ 20 ∧ J (Q ++ turnQ br r x y f s) (turnF br r x y f s) (turnS r x y f s) ∧ μ (Q ++ turnQ br r x y f s) (turnS r x y f s) < μ ((r, x, y) :: Q) s)
    (q : QSt W told wr br l lf A S ln cs ans m σ Q found seen) {X : Fl × Fm × Sto → Prop}
    (hP : ∀ m' σ' f s, QSt W told wr br l lf A S ln cs ans m' σ' [] f s → J [] f s → X (.next, m', σ')) : Sat (ex cfgP (F (n + 1)) ansInner scA m σ) X := by
  refine x_while (n := μ Q seen) (I := fun k s => ∃ Q f sn, QSt W told wr br l lf A S ln cs ans s.1 s.2 Q f sn ∧ J Q f sn ∧ μ Q sn = k) hμ ⟨Q, found, seen, q, hJ0, rfl⟩ (fun k s h => ?_)
  obtain ⟨m2, σ2⟩ := s
  obtain ⟨Q2, f2, s2, q2, j2, rfl⟩ := h
  simp only at q2
  obtain ⟨push, fr, v, h1, h2, h3, h4, a⟩ := q2.st
  have hs := hstr _ _ _ j2
  have hsf : StrsOk fr := fun w hw => hs w (by rw [← h4]; exact List.mem_append_right _ hw)
  have go : ∀ σ3, σ3 = σ2 → Q2 ≠ [] → Sat (exs cfgP (F (n + 1)) (whileBody ansInner) scA m2 σ3) fun y => match y.1 with
      | .next | .cont => ∃ k, k < μ Q2 s2 ∧ ∃ Q f sn, QSt W told wr br l lf A S ln cs ans y.2.1 y.2.2 Q f sn ∧ J Q f sn ∧ μ Q sn = k
      | .brk => X (.next, y.2)
      | .ret v => X (.ret v, y.2) := fun σ3 e hne => by
    subst e
    cases Q2 with
    | nil => exact absurd rfl hne
    | cons t Q2 =>
      obtain ⟨r, x, y⟩ := t
      obtain ⟨p1, p2, p3, p4, p5, p6, p7⟩ := hJ _ _ _ _ _ _ j2
      exact ans_turn G H hSy hNt p1 p2 p3 p4 p5 q2 fun m3 σ3 q3 => ⟨_, p7, _, _, _, q3, p6, rfl⟩
  refine t_bool (t_or (t_cmp (q_name (Eq.trans (b := m2 "fresh") (by kernel_rfl) h1) (.eq (a := (.list [], σ2)) (by kernel_rfl) (.eq (cmp_fresh h2 hsf) ?_)))))
  cases hfr : fr with
  | cons w fr' =>
    rw [if_pos (by rfl), if_pos (by rfl)]
    refine go _ rfl fun e => ?_
    rw [e, hfr] at h4
    simp [flat] at h4
  | nil =>
    rw [if_neg (by simp)]
    refine t_or (t_cmp (q_name (Eq.trans (b := m2 "waiting") (by kernel_rfl) h3) (.eq rfl (.eq rfl ?_))))
    rw [hfr, List.append_nil] at h4
    cases hQ : Q2 with
    | nil =>
      subst hQ
      rw [show push = [] from h4]
      rw [if_neg (by simp)]
      refine t_nil ?_
      rw [if_neg (by simp)]
      exact hP _ _ _ _ q2 j2
    | cons t Q3 =>
      have hpl : 0 < push.length := by rw [h4, hQ]; simp [flat, tw]
      rw [if_pos (by simp; omega), if_pos (by rfl)]
      subst hQ
      exact go _ rfl (by simp)
end Mine
set_option maxRecDepth 100000
namespace Mine
open PySem PyProof.Rows
def Good (cs : List Nat) : Prop := (∀ x ∈ cs, x < 0x110000) ∧ cs.length < 2 ^ 20
/-- the text reads as the words of these symbols -/
def Txt (W : Int → Str) : List Nat → List Int → Prop
  | cs, [] => cs = []
  | cs, s :: ss => Good cs ∧ ∃ cs' k, token cs 0 = ((W s).cps.toList, cs', k) ∧ k + cs'.count 10 = cs.count 10 ∧ Txt W cs' ss
theorem get_sym {W : Int → Str} {n l lf : Nat} {ln : Int} {cs : List Nat} {s : Int} {ss : List Int} {σ : Sto} (h1 : σ.get l = some (.lexer ln lf [])) (h2 : σ.get lf = some (.list (chars cs))) (ht : Txt W cs (s :: ss)) :
    ∃ cs' ln', F (n + 1) "get_token" [.loc l] σ = some (.str (W s), lexAt σ l lf ln' cs') ∧ Txt W cs' ss ∧ ln' + (cs'.count 10 : Nat) = ln + (cs.count 10 : Nat) := by
  obtain ⟨hg, cs', k, e, hk, ht⟩ := ht
  refine ⟨cs', ln + (k : Nat), ?_, ht, by omega⟩
  rw [get_word h1 h2 hg.1 hg.2 e]
theorem get_end {W : Int → Str} {n l lf : Nat} {ln : Int} {cs : List Nat} {σ : Sto} (h0 : W 0 = ⟨#[]⟩) (h1 : σ.get l = some (.lexer ln lf [])) (h2 : σ.get lf = some (.list (chars cs))) (ht : Txt W cs []) :
    F (n + 1) "get_token" [.loc l] σ = some (.str (W 0), lexAt σ l lf ln []) := by
  rw [show cs = [] from ht] at h2
  rw [get_word (cs := []) (tok := []) (rest := []) (k := 0) h1 h2 (by simp) (by decide) rfl, h0]
  simp
/-- the next word, or the empty one at the end -/
theorem get_any {W : Int → Str} {n l lf : Nat} {ln : Int} {cs : List Nat} {ss : List Int} {σ : Sto} (h0 : W 0 = ⟨#[]⟩) (h1 : σ.get l = some (.lexer ln lf [])) (h2 : σ.get lf = some (.list (chars cs))) (ht : Txt W cs ss) :
    ∃ cs' ln', F (n + 1) "get_token" [.loc l] σ = some (.str (W (ss.headD 0)), lexAt σ l lf ln' cs') ∧ Txt W cs' ss.tail ∧ ln' + (cs'.count 10 : Nat) = ln + (cs.count 10 : Nat) := by
  cases ss with
  | nil =>
    refine ⟨[], ln, get_end h0 h1 h2 ht, rfl, ?_⟩
    rw [show cs = [] from ht]
  | cons s ss => exact get_sym h1 h2 ht
def qsyms (qs : List (Nat × Nat)) : List Int := qs.flatMap fun q => [256 + (q.1 : Int), 256 + (q.2 : Int)]
/-- what stands between two questions -/
structure OSt (W : Int → Str) (told wr : AV) (br : Nat → List Int) (res : Nat × Nat → Option (List Nat)) (l lf A : Nat) (tot : Int) (done rest : List (Nat × Nat)) (m : Fm) (s : Sto) : Prop where
  lexer : m "lexer" = some (.loc l)
  leads : m "leads" = some (leadsA br)
  told : m "told" = some told
  written : m "written" = some wr
  answers : m "answers" = some (.loc A)
  start : m "start" = some (.str (W ((qsyms rest).headD 0)))
  st : ∃ ln cs, s.get l = some (.lexer ln lf []) ∧ s.get lf = some (.list (chars cs)) ∧ s.get A = some (.list (done.map fun q => dueA (res q))) ∧ Txt W cs (qsyms rest).tail ∧ ln + (cs.count 10 : Nat) = tot ∧ l < s.nx ∧ lf < s.nx ∧ A < s.nx ∧ lf ≠ A ∧ ∃ b, s.get 0 = some (.tab b)
end Mine
set_option maxRecDepth 100000
namespace Mine
open PySem PyProof.Rows
theorem ans_body {br : Nat → List Int} (G : GOk br) {Sy : Int → Prop} {W : Int → Str} {told wr : AV} (H : WOk Sy W told wr) (hSy : ∀ k, k < 4 → ∀ s ∈ br k, Sy s ∧ s ≠ 0) (hNt : ∀ x, Sy x → 256 ≤ x → ∃ j : Nat, j < 4 ∧ x = 256 + (j : Int)) (h0 : W 0 = ⟨#[]⟩)
    {res : Nat × Nat → Option (List Nat)} {J : Nat × Nat → List Trip → Option (List Nat) → List Int → Prop} {μ : List Trip → List Int → Nat} {n : Nat} {m : Fm} {σ : Sto} {l lf A : Nat} {tot : Int} {done rs : List (Nat × Nat)} {q : Nat × Nat}
    (hJ0 : J q [([], 256 + (q.1 : Int), 256 + (q.2 : Int))] none []) (hμ : μ [([], 256 + (q.1 : Int), 256 + (q.2 : Int))] [] < 100000) (hstr : ∀ Q f s, J q Q f s → StrsOk (flat W Q)) (hd : done.length < 1000)
    (hJ : ∀ r x y Q f s, J q ((r, x, y) :: Q) f s → Sy x ∧ Sy y ∧ r.length ≤ 1000 ∧ s.length < 1000 ∧ (flat W ((r, x, y) :: Q)).length < 2 ^ 20 ∧ J q (Q ++ turnQ br r x y f s) (turnF br r x y f s) (turnS r x y f s) ∧ μ (Q ++ turnQ br r x y f s) (turnS r x y f s) < μ ((r, x, y) :: Q) s)
    (hfin : ∀ f s, J q [] f s → f = res q) (o : OSt W told wr br res l lf A tot done (q :: rs) m σ) {X : Fl × Fm × Sto → Prop} (hP : ∀ m' σ', OSt W told wr br res l lf A tot (done ++ [q]) rs m' σ' → X (.next, m', σ')) :
    Sat (exs cfgP (F (n + 1)) (whileBody ansOuter) scA m σ) X := by
  obtain ⟨ln, cs, g1, g2, g3, ht, htot, l1, l2, l3, ne, tb, etb⟩ := o.st
  obtain ⟨cs2, ln2, e2, t2, c2⟩ := get_any (n := n) h0 g1 g2 ht
  have hres : ∀ {s : Sto} {ln : Int} {p : List AV}, s.get l = some (.lexer ln lf p) → resM s (.loc l) "get_token" = some (.lex l "get_token") := fun h => by simp only [resM, h]; rfl
  refine x_cons (by kernel_rfl) (x_assignT (by kernel_rfl) (q_tuple (by decide) (q_cons (q_list (by decide) (q_cons (.eq rfl (q_cons (q_name (Eq.trans (b := m "start") (by kernel_rfl) o.start) (q_cons (q_meth (by decide) (q_name (Eq.trans (b := m "lexer") (by kernel_rfl) o.lexer) (.eq (hres g1) (q_nil (.eq e2 (q_nil ?_)))))))))))))))
  have hll : lf ≠ l := by rintro rfl; rw [g1] at g2; cases g2
  have hAl : A ≠ l := by rintro rfl; rw [g1] at g3; cases g3
  have p1 : (lexAt σ l lf ln2 cs2).get l = some (.lexer ln2 lf []) := lexAt_get
  have p2 : (lexAt σ l lf ln2 cs2).get lf = some (.list (chars cs2)) := lexAt_left hll
  have p3 : (lexAt σ l lf ln2 cs2).get A = some (.list (done.map fun q => dueA (res q))) := ((upd_ne hAl).trans (upd_ne ne.symm)).trans g3
  have p4 : (lexAt σ l lf ln2 cs2).get 0 = some (.tab tb) := ((upd_ne (fun q => by rw [q, g1] at etb; cases etb)).trans (upd_ne (fun q => by rw [q, g2] at etb; cases etb))).trans etb
  have q1 : l < (lexAt σ l lf ln2 cs2).nx := l1
  have q2 : lf < (lexAt σ l lf ln2 cs2).nx := l2
  have q3 : A < (lexAt σ l lf ln2 cs2).nx := l3
  generalize lexAt σ l lf ln2 cs2 = σ2 at *
  refine q_cons (.eq rfl (q_cons (.eq rfl (q_cons (.eq (a := (.loc σ2.nx, σ2.new (.list []))) (by kernel_rfl) (q_nil (.eq rfl ?_)))))))
  have kn : Keep σ2.nx σ2 (σ2.new (.list [])) := Keep.new (Nat.le_refl _)
  have as : AS (σ2.new (.list [])) l lf ln2 cs2 [] A (done.map fun q => dueA (res q)) σ2.nx (([] : List Int).map AV.int) :=
    ⟨kn.get q1 p1, kn.get q2 p2, kn.get q3 p3, new_get, Nat.lt_succ_of_lt q1, Nat.lt_succ_of_lt q2, Nat.lt_succ_of_lt q3, Nat.lt_succ_self _, ne, Nat.ne_of_lt q2, Nat.ne_of_lt q3, tb, kn.get (Nat.lt_of_le_of_lt (Nat.zero_le _) q1) p4⟩
  refine x_cons (by kernel_rfl) (ans_inner (n := n) (Q := [([], 256 + (q.1 : Int), 256 + (q.2 : Int))]) (found := none) (seen := []) (J := J q) (μ := μ) G H hSy hNt hJ0 hμ hstr hJ
    ⟨Eq.trans (b := m "lexer") (by kernel_rfl) o.lexer, Eq.trans (b := m "leads") (by kernel_rfl) o.leads, Eq.trans (b := m "told") (by kernel_rfl) o.told, Eq.trans (b := m "written") (by kernel_rfl) o.written, Eq.trans (b := m "answers") (by kernel_rfl) o.answers,
      by kernel_rfl, by kernel_rfl, [], flat W [([], 256 + (q.1 : Int), 256 + (q.2 : Int))], _, by kernel_rfl, .val, by kernel_rfl, rfl, as⟩ fun m3 σ3 f s q3' j3 => ?_)
  obtain rfl := hfin f s j3
  obtain ⟨push, fr, v, h1, h2, h3, h4, a⟩ := q3'.st
  have hp : push = [] := (List.append_eq_nil_iff.mp (show push ++ fr = [] from h4)).1
  subst hp
  have hres2 : resM σ3 (.loc A) "append" = some (.append A) := by simp only [resM, a.ansF]; rfl
  have hrun : ∀ {p : Pos} {v : AV}, runM cfgP p (F (n + 1)) (.append A) [v] σ3 = some (.none, σ3.upd A (.list ((done.map fun q => dueA (res q)) ++ [v]))) := fun {p v} => by
    show (match σ3.get A with
      | some (.list xs) => if xs.length < 2 ^ 20 then some (AV.none, σ3.upd A (.list (xs ++ [v]))) else none
      | _ => none) = _
    rw [a.ansF]
    show (if (done.map fun q => dueA (res q)).length < 2 ^ 20 then _ else none) = _
    rw [if_pos (by simp; omega)]
  refine x_cons (by kernel_rfl) (x_expr rfl (q_meth (by decide) (q_name (Eq.trans (b := m3 "answers") (by kernel_rfl) q3'.answers) (.eq hres2 (q_cons (q_name (Eq.trans (b := m3 "found") (by kernel_rfl) q3'.found) (q_nil (.eq hrun ?_))))))))
  have a2 := a.setAns (ans' := (done.map fun q => dueA (res q)) ++ [dueA (res q)])
  simp only at ⊢
  generalize σ3.upd A (.list ((done.map fun q => dueA (res q)) ++ [dueA (res q)])) = σ4 at *
  obtain ⟨cs5, ln5, e5, t5, c5⟩ := get_any (n := n) h0 a2.lex a2.left t2
  refine x_cons (by kernel_rfl) (x_assign rfl (by kernel_rfl) (q_meth (by decide) (q_name (Eq.trans (b := m3 "lexer") (by kernel_rfl) q3'.lexer) (.eq (hres a2.lex) (q_nil (.eq e5 (x_nil (hP _ _ ?_))))))))
  have a5 := a2.at_ (ln' := ln5) (cs' := cs5)
  refine ⟨Eq.trans (b := m3 "lexer") (by kernel_rfl) q3'.lexer, Eq.trans (b := m3 "leads") (by kernel_rfl) q3'.leads, Eq.trans (b := m3 "told") (by kernel_rfl) q3'.told, Eq.trans (b := m3 "written") (by kernel_rfl) q3'.written, Eq.trans (b := m3 "answers") (by kernel_rfl) q3'.answers, ?_,
    ln5, cs5, a5.lex, a5.left, ?_, t5, by omega, a5.l1, a5.l2, a5.l3, ne, a5.tab⟩
  · show (m3.set "start" _) "start" = _
    rw [Fm.set, if_pos rfl]
    rfl
  · rw [a5.ansF]; simp
end Mine
set_option maxRecDepth 100000
namespace Mine
open PySem PyProof.Rows
theorem call_answers {br : Nat → List Int} (G : GOk br) {Sy : Int → Prop} {W : Int → Str} {told wr : AV} (H : WOk Sy W told wr) (hSy : ∀ k, k < 4 → ∀ s ∈ br k, Sy s ∧ s ≠ 0) (hNt : ∀ x, Sy x → 256 ≤ x → ∃ j : Nat, j < 4 ∧ x = 256 + (j : Int)) (hN : ∀ j : Nat, j < 4 → Sy (256 + (j : Int))) (hS0 : Sy 0) (h0 : W 0 = ⟨#[]⟩)
    {res : Nat × Nat → Option (List Nat)} {J : Nat × Nat → List Trip → Option (List Nat) → List Int → Prop} {μ : List Trip → List Int → Nat} {n : Nat} {σ : Sto} {l lf : Nat} {ln : Int} {cs : List Nat} {qs : List (Nat × Nat)}
    (hq : ∀ q ∈ qs, q.1 < 4 ∧ q.2 < 4) (hql : qs.length < 1000)
    (hJ0 : ∀ q ∈ qs, J q [([], 256 + (q.1 : Int), 256 + (q.2 : Int))] none []) (hμ : ∀ q ∈ qs, μ [([], 256 + (q.1 : Int), 256 + (q.2 : Int))] [] < 100000) (hstr : ∀ q ∈ qs, ∀ Q f s, J q Q f s → StrsOk (flat W Q))
    (hJ : ∀ q ∈ qs, ∀ r x y Q f s, J q ((r, x, y) :: Q) f s → Sy x ∧ Sy y ∧ r.length ≤ 1000 ∧ s.length < 1000 ∧ (flat W ((r, x, y) :: Q)).length < 2 ^ 20 ∧ J q (Q ++ turnQ br r x y f s) (turnF br r x y f s) (turnS r x y f s) ∧ μ (Q ++ turnQ br r x y f s) (turnS r x y f s) < μ ((r, x, y) :: Q) s)
    (hfin : ∀ q ∈ qs, ∀ f s, J q [] f s → f = res q) (g1 : σ.get l = some (.lexer ln lf [])) (g2 : σ.get lf = some (.list (chars cs))) (l1 : l < σ.nx) (l2 : lf < σ.nx) (htab : ∃ b, σ.get 0 = some (.tab b)) (ht : Txt W cs (qsyms qs)) :
    Sat (F (n + 2) "_law_answers" [.loc l, leadsA br, told, wr] σ) fun z => z.1 = .list (qs.map fun q => dueA (res q)) ∧ z.2.get l = some (.lexer (ln + (cs.count 10 : Nat)) lf []) ∧ (∃ b, z.2.get 0 = some (.tab b)) ∧ σ.nx ≤ z.2.nx := by
  rw [F_def (i := 61) (by decide) (by kernel_rfl)]
  refine sat_call (by kernel_rfl) ?_
  have hres : ∀ {s : Sto} {ln : Int} {p : List AV}, s.get l = some (.lexer ln lf p) → resM s (.loc l) "get_token" = some (.lex l "get_token") := fun h => by simp only [resM, h]; rfl
  have kn : Keep σ.nx σ (σ.new (.list [])) := Keep.new (Nat.le_refl _)
  obtain ⟨cs1, ln1, e1, t1, c1⟩ := get_any (n := n) (σ := σ.new (.list [])) h0 (kn.get l1 g1) (kn.get l2 g2) ht
  have hll : lf ≠ l := by rintro rfl; rw [g1] at g2; cases g2
  refine x_cons (by kernel_rfl) (x_assignT (by kernel_rfl) (q_tuple (by decide) (q_cons (.eq (a := (.loc σ.nx, σ.new (.list []))) (by kernel_rfl) (q_cons (q_meth (by decide) (q_name (v := .loc l) (by kernel_rfl) (.eq (hres (kn.get l1 g1)) (q_nil (.eq e1 (q_nil (.eq rfl ?_))))))))))))
  have p3 : (lexAt (σ.new (.list [])) l lf ln1 cs1).get σ.nx = some (.list []) := ((upd_ne (Nat.ne_of_gt l1)).trans (upd_ne (Nat.ne_of_gt l2))).trans new_get
  obtain ⟨tb, etb⟩ := htab
  have p4 : (lexAt (σ.new (.list [])) l lf ln1 cs1).get 0 = some (.tab tb) := ((upd_ne (fun q => by rw [q, g1] at etb; cases etb)).trans (upd_ne (fun q => by rw [q, g2] at etb; cases etb))).trans (kn.get (Nat.lt_of_le_of_lt (Nat.zero_le _) l1) etb)
  refine x_cons (by kernel_rfl) (x_while (n := qs.length) (I := fun k s => ∃ done rest, qs = done ++ rest ∧ rest.length = k ∧ σ.nx < s.2.nx ∧ OSt W told wr br res l lf σ.nx (ln + (cs.count 10 : Nat)) done rest s.1 s.2) (by show _ < 100000; omega)
    ⟨[], qs, rfl, rfl, Nat.lt_succ_self _, ⟨by kernel_rfl, by kernel_rfl, by kernel_rfl, by kernel_rfl, by kernel_rfl, by kernel_rfl, ln1, cs1, lexAt_get, lexAt_left hll, p3, t1, c1, Nat.lt_succ_of_lt l1, Nat.lt_succ_of_lt l2, Nat.lt_succ_self _, Nat.ne_of_lt l2, tb, p4⟩⟩ (fun k s h => ?_))
  obtain ⟨m2, σ2⟩ := s
  obtain ⟨done, rest, hqs, rfl, hnx, o⟩ := h
  simp only at hnx o
  have hSs : Sy ((qsyms rest).headD 0) := by
    cases rest with
    | nil => exact hS0
    | cons q rs => exact hN q.1 (hq q (by rw [hqs]; simp)).1
  refine t_not (t_plain rfl (q_call rfl (g := .glob "ISEOF") (by kernel_rfl) (q_cons (q_call rfl (g := .glob "_law_symbol") (by kernel_rfl) (q_cons (q_name (Eq.trans (b := m2 "start") (by kernel_rfl) o.start) (q_cons (q_name (Eq.trans (b := m2 "told") (by kernel_rfl) o.told) (q_nil (.eq (H.sym (n := n) hSs) (q_nil (.eq call_iseof (.eq rfl ?_)))))))))))))
  have k5 : Keep σ2.nx σ2 ((σ2.upto σ2.nx).upto (σ2.upto σ2.nx).nx) := (Keep.upto (Nat.le_refl _)).trans (Keep.upto (Nat.le_refl _))
  obtain ⟨ln2, cs2, b1, b2, b3, b4, b5, b6, b7, b8, b9, bt, b10⟩ := o.st
  have o' : OSt W told wr br res l lf σ.nx (ln + (cs.count 10 : Nat)) done rest m2 ((σ2.upto σ2.nx).upto (σ2.upto σ2.nx).nx) :=
    ⟨o.lexer, o.leads, o.told, o.written, o.answers, o.start, ln2, cs2, k5.get b6 b1, k5.get b7 b2, k5.get b8 b3, b4, b5, b6, b7, b8, b9, bt, k5.get (Nat.lt_of_le_of_lt (Nat.zero_le _) b6) b10⟩
  have hnx' : σ.nx < ((σ2.upto σ2.nx).upto (σ2.upto σ2.nx).nx).nx := hnx
  simp only at ⊢
  generalize ((σ2.upto σ2.nx).upto (σ2.upto σ2.nx).nx) = σ3 at *
  cases rest with
  | nil =>
    rw [if_neg (by decide)]
    obtain ⟨ln6, cs6, d1, d2, d3, d4, d5, d6, d7, d8, d9, dt, d10⟩ := o'.st
    rw [List.append_nil] at hqs
    subst hqs
    refine x_consF (x := "answers") (by kernel_rfl) o'.answers d3 (x_return (q_name (v := .list (qs.map fun q => dueA (res q))) (by kernel_rfl) ⟨rfl, ?_, ⟨dt, ?_⟩, Nat.le_of_lt hnx'⟩))
    have hcs : cs6 = [] := d4
    subst hcs
    have hl : ln6 = ln + (cs.count 10 : Nat) := by simpa using d5
    subst hl
    · show (if l < σ.nx then (if l = σ.nx then none else σ3.get l) else none) = _
      rw [if_pos l1, if_neg (Nat.ne_of_lt l1)]
      exact d1
    · show (if 0 < σ.nx then (if 0 = σ.nx then none else σ3.get 0) else none) = _
      have h0 : 0 < σ.nx := Nat.lt_of_le_of_lt (Nat.zero_le _) l1
      rw [if_pos h0, if_neg (Nat.ne_of_lt h0)]
      exact d10
  | cons q rs =>
    rw [if_pos (by show (!(PyData.eqv (.int (256 + (q.1 : Int))) (.int 0))) = true; simp [PyData.eqv]; omega)]
    have hqm : q ∈ qs := by rw [hqs]; simp
    have hdl : done.length < 1000 := by have : qs.length = done.length + (rs.length + 1) := by rw [hqs]; simp
                                        omega
    refine ans_body (n := n) (μ := μ) (J := J) G H hSy hNt h0 (hJ0 q hqm) (hμ q hqm) (hstr q hqm) hdl (hJ q hqm) (hfin q hqm) o' fun m4 σ4 o4 => ?_
    exact ⟨rs.length, Nat.lt_succ_self _, done ++ [q], rs, by rw [hqs]; simp, rfl, o4.st.elim fun _ h => h.elim fun _ h => h.2.2.2.2.2.2.2.1, o4⟩
end Mine
namespace Mine
open PySem
/-- the place of a road in the order of roads (steps are 0 and 1) -/
def code (r : List Nat) : Nat := r.foldl (fun c d => 2 * c + d) 1
theorem code_snoc {r : List Nat} {d : Nat} : code (r ++ [d]) = 2 * code r + d := by simp [code]
theorem fold_lt : ∀ (s : List Nat) {c c' : Nat}, c < c' → s.foldl (fun c d => 2 * c + d) c < s.foldl (fun c d => 2 * c + d) c'
  | [], _, _, h => h
  | d :: s, c, c', h => fold_lt s (c := 2 * c + d) (c' := 2 * c' + d) (by omega)
theorem fold_le : ∀ (s : List Nat) {c : Nat}, c ≤ s.foldl (fun c d => 2 * c + d) c
  | [], _ => Nat.le_refl _
  | d :: s, c => Nat.le_trans (by omega) (fold_le s (c := 2 * c + d))
theorem code_app {r s : List Nat} : code (r ++ s) = s.foldl (fun c d => 2 * c + d) (code r) := by simp [code, List.foldl_append]
theorem code_app_lt {a b s : List Nat} (h : code a < code b) : code (a ++ s) < code (b ++ s) := by rw [code_app, code_app]; exact fold_lt s h
theorem code_pre {p s : List Nat} : code p ≤ code (p ++ s) := by rw [code_app]; exact fold_le s
theorem code_pos {r : List Nat} : 1 ≤ code r := fold_le r
theorem there_term {br : Nat → List Int} {x : Int} (h : x < 256) {s : List Nat} : there br x s = if s = [] then some x else none := by
  cases s with
  | nil => simp [there, h]
  | cons d s => simp [there, h]
end Mine
namespace Mine
open PySem
def Bits (r : List Nat) : Prop := ∀ d ∈ r, d < 2
def Diff (br : Nat → List Int) (a b : Int) (t : List Nat) : Prop := there br a t ≠ there br b t
/-- the node at the road's end -/
def NodeAt (br : Nat → List Int) (a : Int) (r : List Nat) (x : Int) : Prop := ∀ s, there br a (r ++ s) = there br x s
/-- the invariant of the queue -/
structure J02 (br : Nat → List Int) (a b : Int) (Q : List Trip) (f : Option (List Nat)) (seen : List Int) : Prop where
  sym : ∀ e ∈ Q, SymOk e.2.1 ∧ SymOk e.2.2 ∧ Bits e.1 ∧ e.1.length ≤ seen.length
  node : ∀ e ∈ Q, NodeAt br a e.1 e.2.1 ∧ NodeAt br b e.1 e.2.2
  rising : Q.Pairwise fun e e' => code e.1 < code e'.1
  kids : ∀ e ∈ Q, e.1 = [] ∨ ∃ p d, e.1 = p ++ [d] ∧ ∀ e' ∈ Q, code p < code e'.1
  seenAt : ∀ z ∈ seen, ∃ (x y : Nat) (r : List Nat), x < 4 ∧ y < 4 ∧ z = 1000 * (256 + (x : Int)) + (256 + (y : Int)) ∧ NodeAt br a r (256 + (x : Int)) ∧ NodeAt br b r (256 + (y : Int)) ∧ Bits r ∧ ∀ e ∈ Q, code r < code e.1
  nodup : seen.Nodup
  live : f = none → ∀ t, Bits t → Diff br a b t → ∃ e ∈ Q, ∃ s, code (e.1 ++ s) ≤ code t ∧ Bits s ∧ Diff br a b (e.1 ++ s)
  dead : ∀ r, f = some r → Bits r ∧ Diff br a b r ∧ ∀ t, Bits t → Diff br a b t → code r ≤ code t
theorem there_kid {br : Nat → List Int} {j d : Nat} {t : Int} {s : List Nat} (h : (br j)[d]? = some t) : there br (256 + (j : Int)) (d :: s) = there br t s := by
  rw [there, if_neg (by omega), show (256 + (j : Int) - 256).toNat = j by omega, h]
theorem there_off {br : Nat → List Int} {j d : Nat} {s : List Nat} (h : (br j)[d]? = none) : there br (256 + (j : Int)) (d :: s) = none := by
  rw [there, if_neg (by omega), show (256 + (j : Int) - 256).toNat = j by omega, h]
theorem NodeAt.kid {br : Nat → List Int} {a : Int} {r : List Nat} {j d : Nat} {t : Int} (h : NodeAt br a r (256 + (j : Int))) (ht : (br j)[d]? = some t) : NodeAt br a (r ++ [d]) t := fun s => by
  rw [List.append_assoc, List.singleton_append, h, there_kid ht]
theorem NodeAt.root {br : Nat → List Int} {a : Int} : NodeAt br a [] a := fun _ => rfl
theorem J02.start {br : Nat → List Int} {a b : Int} (ha : SymOk a) (hb : SymOk b) : J02 br a b [([], a, b)] none [] where
  sym e he := by rw [List.mem_singleton.mp he]; exact ⟨ha, hb, by simp [Bits], Nat.le_refl _⟩
  node e he := by rw [List.mem_singleton.mp he]; exact ⟨.root, .root⟩
  rising := by simp
  kids e he := by rw [List.mem_singleton.mp he]; exact .inl rfl
  seenAt z hz := by cases hz
  nodup := .nil
  live _ t ht hd := ⟨_, List.mem_singleton.mpr rfl, t, Nat.le_refl _, ht, hd⟩
  dead r h := by cases h
end Mine
namespace Mine
open PySem
/-- two nodes whose looks differ at once -/
def Now (br : Nat → List Int) (x y : Int) : Prop := Diff br x y []
theorem NodeAt.diff {br : Nat → List Int} {a b x y : Int} {r s : List Nat} (ha : NodeAt br a r x) (hb : NodeAt br b r y) : Diff br a b (r ++ s) ↔ Diff br x y s := by
  unfold Diff
  rw [ha s, hb s]
theorem now_iff {br : Nat → List Int} {x y : Int} (hx : SymOk x) (hy : SymOk y) : Diff br x y [] ↔ (x ≠ y ∧ (x < 256 ∨ y < 256)) ∨ (256 ≤ x ∧ 256 ≤ y ∧ (br (x - 256).toNat).length ≠ (br (y - 256).toNat).length) := by
  unfold Diff
  simp only [there]
  rcases hx with ⟨hx1, hx2⟩ | ⟨jx, hjx, rfl⟩ <;> rcases hy with ⟨hy1, hy2⟩ | ⟨jy, hjy, rfl⟩
  · rw [if_pos hx2, if_pos hy2]
    simp only [ne_eq, Option.some.injEq]
    omega
  · rw [if_pos hx2, if_neg (by omega)]
    simp only [ne_eq, Option.some.injEq]
    omega
  · rw [if_neg (by omega), if_pos hy2]
    simp only [ne_eq, Option.some.injEq]
    omega
  · rw [if_neg (by omega), if_neg (by omega)]
    simp only [ne_eq, Option.some.injEq]
    omega
theorem J02.head_le {br : Nat → List Int} {a b x y : Int} {r : List Nat} {Q : List Trip} {f : Option (List Nat)} {seen : List Int} (J : J02 br a b ((r, x, y) :: Q) f seen) : ∀ e ∈ (r, x, y) :: Q, code r ≤ code e.1 := fun e he => by
  rcases List.mem_cons.mp he with rfl | he
  · exact Nat.le_refl _
  · exact Nat.le_of_lt ((List.pairwise_cons.mp J.rising).1 e he)
/-- a difference at the head is the least of all -/
theorem J02.least {br : Nat → List Int} {a b x y : Int} {r : List Nat} {Q : List Trip} {seen : List Int} (J : J02 br a b ((r, x, y) :: Q) none seen) (h : Diff br x y []) : Bits r ∧ Diff br a b r ∧ ∀ t, Bits t → Diff br a b t → code r ≤ code t := by
  have h1 := J.sym _ List.mem_cons_self
  have h2 := J.node _ List.mem_cons_self
  refine ⟨h1.2.2.1, ?_, fun t ht hd => ?_⟩
  · have := (NodeAt.diff h2.1 h2.2 (s := [])).mpr h
    rwa [List.append_nil] at this
  · obtain ⟨e, he, s, hs, _⟩ := J.live rfl t ht hd
    exact Nat.le_trans (J.head_le e he) (Nat.le_trans code_pre hs)
end Mine
namespace Mine
open PySem
theorem J02.drop {br : Nat → List Int} {a b x y : Int} {r : List Nat} {Q : List Trip} {f f' : Option (List Nat)} {seen : List Int} (J : J02 br a b ((r, x, y) :: Q) f seen)
    (hl : f' = none → ∀ t, Bits t → Diff br a b t → ∃ e ∈ Q, ∃ s, code (e.1 ++ s) ≤ code t ∧ Bits s ∧ Diff br a b (e.1 ++ s))
    (hd : ∀ r, f' = some r → Bits r ∧ Diff br a b r ∧ ∀ t, Bits t → Diff br a b t → code r ≤ code t) : J02 br a b Q f' seen where
  sym e he := J.sym e (List.mem_cons_of_mem _ he)
  node e he := J.node e (List.mem_cons_of_mem _ he)
  rising := (List.pairwise_cons.mp J.rising).2
  kids e he := (J.kids e (List.mem_cons_of_mem _ he)).imp id fun ⟨p, d, h1, h2⟩ => ⟨p, d, h1, fun e' he' => h2 e' (List.mem_cons_of_mem _ he')⟩
  seenAt z hz := let ⟨x, y, r, h1, h2, h3, h4, h5, h6, h7⟩ := J.seenAt z hz; ⟨x, y, r, h1, h2, h3, h4, h5, h6, fun e he => h7 e (List.mem_cons_of_mem _ he)⟩
  nodup := J.nodup
  live := hl
  dead := hd
/-- a pair that was seen before may be dropped -/
theorem J02.pruned {br : Nat → List Int} {a b x y : Int} {r r0 : List Nat} {Q : List Trip} {seen : List Int} (J : J02 br a b ((r, x, y) :: Q) none seen) (n1 : NodeAt br a r0 x) (n2 : NodeAt br b r0 y) (hb : Bits r0) (hlt : code r0 < code r) :
    ∀ (n : Nat) (t : List Nat), code t ≤ n → Bits t → Diff br a b t → ∃ e ∈ Q, ∃ s, code (e.1 ++ s) ≤ code t ∧ Bits s ∧ Diff br a b (e.1 ++ s)
  | 0, t, hn, _, _ => absurd (code_pos (r := t)) (by omega)
  | n + 1, t, hn, ht, hd => by
    obtain ⟨e, he, s, h1, h2, h3⟩ := J.live rfl t ht hd
    rcases List.mem_cons.mp he with rfl | he
    · have hn2 := J.node _ List.mem_cons_self
      have d2 := (NodeAt.diff n1 n2).mpr ((NodeAt.diff hn2.1 hn2.2).mp h3)
      have lt := code_app_lt (s := s) hlt
      obtain ⟨e', he', s', k1, k2, k3⟩ := J02.pruned J n1 n2 hb hlt n (r0 ++ s) (by simp only at h1; omega) (fun d hdm => (List.mem_append.mp hdm).elim (hb d) (h2 d)) d2
      exact ⟨e', he', s', by simp only at h1; omega, k2, k3⟩
    · exact ⟨e, he, s, h1, h2, h3⟩
/-- a head without any difference may be dropped -/
theorem J02.same {br : Nat → List Int} {a b x y : Int} {r : List Nat} {Q : List Trip} {seen : List Int} (J : J02 br a b ((r, x, y) :: Q) none seen) (h : ∀ s, ¬ Diff br x y s) :
    ∀ t, Bits t → Diff br a b t → ∃ e ∈ Q, ∃ s, code (e.1 ++ s) ≤ code t ∧ Bits s ∧ Diff br a b (e.1 ++ s) := fun t ht hd => by
  obtain ⟨e, he, s, h1, h2, h3⟩ := J.live rfl t ht hd
  rcases List.mem_cons.mp he with rfl | he
  · have hn2 := J.node _ List.mem_cons_self
    exact absurd ((NodeAt.diff hn2.1 hn2.2).mp h3) (h s)
  · exact ⟨e, he, s, h1, h2, h3⟩
end Mine
namespace Mine
open PySem
theorem newQ_mem {r : List Nat} {bx bz : List Int} {e : Trip} : e ∈ newQ r bx bz ↔ ∃ i, i < bx.length ∧ i < bz.length ∧ e = (r ++ [i], bx.getD i 0, bz.getD i 0) := by
  unfold newQ
  simp only [List.mem_map, List.mem_range]
  constructor
  · rintro ⟨i, hi, rfl⟩; exact ⟨i, by omega, by omega, rfl⟩
  · rintro ⟨i, h1, h2, rfl⟩; exact ⟨i, by omega, rfl⟩
theorem newQ_rising {r : List Nat} {bx bz : List Int} : (newQ r bx bz).Pairwise fun e e' => code e.1 < code e'.1 := by
  unfold newQ
  rw [List.pairwise_map]
  refine List.Pairwise.imp (fun {i j} h => ?_) (List.pairwise_lt_range)
  rw [code_snoc, code_snoc]
  omega
theorem kid_of_diff {br : Nat → List Int} {jx jy : Nat} {s : List Nat} (hl : (br jx).length = (br jy).length) (h : Diff br (256 + (jx : Int)) (256 + (jy : Int)) s) : ∃ d s', s = d :: s' ∧ d < (br jx).length ∧ Diff br ((br jx).getD d 0) ((br jy).getD d 0) s' := by
  cases s with
  | nil =>
    unfold Diff at h
    simp only [there] at h
    rw [if_neg (by omega), if_neg (by omega), show (256 + (jx : Int) - 256).toNat = jx by omega, show (256 + (jy : Int) - 256).toNat = jy by omega, hl] at h
    exact absurd rfl h
  | cons d s =>
    refine ⟨d, s, rfl, ?_⟩
    by_cases hd : d < (br jx).length
    · refine ⟨hd, ?_⟩
      unfold Diff at h ⊢
      rw [there_kid (List.getElem?_eq_getElem hd), there_kid (List.getElem?_eq_getElem (hl ▸ hd))] at h
      simpa [List.getD, List.getElem?_eq_getElem hd, List.getElem?_eq_getElem (hl ▸ hd : d < (br jy).length)] using h
    · unfold Diff at h
      rw [there_off (List.getElem?_eq_none (by omega)), there_off (List.getElem?_eq_none (by omega))] at h
      exact absurd rfl h
end Mine
namespace Mine
open PySem
theorem bits_snoc {r : List Nat} {i : Nat} (h : Bits r) (hi : i < 2) : Bits (r ++ [i]) := fun d hd => by
  rcases List.mem_append.mp hd with h1 | h1
  · exact h d h1
  · rw [List.mem_singleton.mp h1]; exact hi
theorem getD_of_lt {b : List Int} {i : Nat} (h : i < b.length) : b[i]? = some (b.getD i 0) := by simp [List.getD, List.getElem?_eq_getElem h]
theorem getD_mem {b : List Int} {i : Nat} (h : i < b.length) : b.getD i 0 ∈ b := by simp [List.getD, List.getElem?_eq_getElem h]
/-- the head that grows -/
theorem J02.grow {br : Nat → List Int} (G : GOk br) {a b : Int} {jx jy : Nat} (hx : jx < 4) (hy : jy < 4) {r : List Nat} {Q : List Trip} {seen : List Int} (J : J02 br a b ((r, 256 + (jx : Int), 256 + (jy : Int)) :: Q) none seen)
    (hn : 1000 * (256 + (jx : Int)) + (256 + (jy : Int)) ∉ seen) {f' : Option (List Nat)} (hl : f' = none → (br jx).length = (br jy).length)
    (hd : ∀ r, f' = some r → Bits r ∧ Diff br a b r ∧ ∀ t, Bits t → Diff br a b t → code r ≤ code t) : J02 br a b (Q ++ newQ r (br jx) (br jy)) f' (seen ++ [1000 * (256 + (jx : Int)) + (256 + (jy : Int))]) := by
  have hs := J.sym _ List.mem_cons_self
  have hno := J.node _ List.mem_cons_self
  simp only at hs hno
  have lx := G.len jx hx
  have ly := G.len jy hy
  have hri := List.pairwise_cons.mp J.rising
  simp only at hri
  have hnew : ∀ e ∈ newQ r (br jx) (br jy), code r < code e.1 := fun e he => by
    obtain ⟨i, h1, h2, rfl⟩ := newQ_mem.mp he
    rw [code_snoc]
    have := code_pos (r := r)
    omega
  have hall : ∀ e ∈ Q ++ newQ r (br jx) (br jy), code r < code e.1 := fun e he => (List.mem_append.mp he).elim (hri.1 e) (hnew e)
  refine ⟨fun e he => ?_, fun e he => ?_, ?_, fun e he => ?_, fun z hz => ?_, ?_, fun h t ht hdt => ?_, hd⟩
  · rcases List.mem_append.mp he with he | he
    · obtain ⟨h1, h2, h3, h4⟩ := J.sym e (List.mem_cons_of_mem _ he)
      exact ⟨h1, h2, h3, by simp; omega⟩
    · obtain ⟨i, h1, h2, rfl⟩ := newQ_mem.mp he
      refine ⟨G.sym jx hx _ (getD_mem h1), G.sym jy hy _ (getD_mem h2), bits_snoc hs.2.2.1 (by omega), ?_⟩
      have := hs.2.2.2
      simp; omega
  · rcases List.mem_append.mp he with he | he
    · exact J.node e (List.mem_cons_of_mem _ he)
    · obtain ⟨i, h1, h2, rfl⟩ := newQ_mem.mp he
      exact ⟨hno.1.kid (getD_of_lt h1), hno.2.kid (getD_of_lt h2)⟩
  · refine List.pairwise_append.mpr ⟨hri.2, newQ_rising, fun e he e' he' => ?_⟩
    obtain ⟨i, h1, h2, rfl⟩ := newQ_mem.mp he'
    simp only
    rw [code_snoc]
    have hc := hri.1 e he
    rcases J.kids e (List.mem_cons_of_mem _ he) with h | ⟨p, d, h3, h4⟩
    · rw [h] at hc
      have : code [] = 1 := rfl
      have := code_pos (r := r)
      omega
    · have h5 := h4 _ List.mem_cons_self
      simp only at h5
      have hb := (J.sym e (List.mem_cons_of_mem _ he)).2.2.1
      have hd2 : d < 2 := hb d (by rw [h3]; simp)
      rw [h3, code_snoc]
      omega
  · rcases List.mem_append.mp he with he | he
    · refine (J.kids e (List.mem_cons_of_mem _ he)).imp id fun ⟨p, d, h3, h4⟩ => ⟨p, d, h3, fun e' he' => ?_⟩
      have h5 := h4 _ List.mem_cons_self
      exact Nat.lt_trans h5 (hall e' he')
    · obtain ⟨i, h1, h2, rfl⟩ := newQ_mem.mp he
      exact .inr ⟨r, i, rfl, hall⟩
  · rcases List.mem_append.mp hz with hz | hz
    · obtain ⟨x, y, r0, h1, h2, h3, h4, h5, h6, h7⟩ := J.seenAt z hz
      have h8 := h7 _ List.mem_cons_self
      exact ⟨x, y, r0, h1, h2, h3, h4, h5, h6, fun e he => Nat.lt_trans h8 (hall e he)⟩
    · rw [List.mem_singleton.mp hz]
      exact ⟨jx, jy, r, hx, hy, rfl, hno.1, hno.2, hs.2.2.1, hall⟩
  · refine List.nodup_append.mpr ⟨J.nodup, by simp, fun z hz w hw => ?_⟩
    rw [List.mem_singleton.mp hw]
    rintro rfl
    exact hn hz
  · obtain ⟨e, he, s, h1, h2, h3⟩ := J.live rfl t ht hdt
    rcases List.mem_cons.mp he with rfl | he
    · have hxy := (NodeAt.diff hno.1 hno.2).mp h3
      obtain ⟨d, s', rfl, h5, h6⟩ := kid_of_diff (hl h) hxy
      refine ⟨(r ++ [d], (br jx).getD d 0, (br jy).getD d 0), List.mem_append_right _ (newQ_mem.mpr ⟨d, h5, hl h ▸ h5, rfl⟩), s', ?_, fun c hc => h2 c (List.mem_cons_of_mem _ hc), ?_⟩
      · simpa using h1
      · simpa using h3
    · exact ⟨e, List.mem_append_left _ he, s, h1, h2, h3⟩
/-- the invariant is kept by a turn -/
theorem J02.turn {br : Nat → List Int} (G : GOk br) {a b x y : Int} {r : List Nat} {Q : List Trip} {f : Option (List Nat)} {seen : List Int} (J : J02 br a b ((r, x, y) :: Q) f seen) :
    J02 br a b (Q ++ turnQ br r x y f seen) (turnF br r x y f seen) (turnS r x y f seen) := by
  unfold turnQ turnF turnS
  have hs := J.sym _ List.mem_cons_self
  simp only at hs
  have hno := J.node _ List.mem_cons_self
  simp only at hno
  cases f with
  | some w =>
    have e : stepF r x y (some w) = some w := by simp [stepF]
    rw [e]
    have ng : ¬ goes' x y (some w) seen := by simp [goes']
    rw [if_neg ng, if_neg ng, if_neg ng, List.append_nil]
    exact J.drop (by simp) J.dead
  | none =>
    by_cases h1 : x ≠ y ∧ (x < 256 ∨ y < 256)
    · have e : stepF r x y none = some r := by simp [stepF, h1]
      rw [e]
      have ng : ¬ goes' x y (some r) seen := by simp [goes']
      rw [if_neg ng, if_neg ng, if_neg ng, List.append_nil]
      refine J.drop (by simp) fun r' hr' => ?_
      injection hr' with hr'
      subst hr'
      exact J.least ((now_iff hs.1 hs.2.1).mpr (.inl h1))
    · have e : stepF r x y none = none := by
        unfold stepF
        rw [if_neg]
        rintro ⟨-, h2⟩
        exact h1 h2
      rw [e]
      by_cases hg : goes' x y none seen
      · rw [if_pos hg, if_pos hg, if_pos hg]
        obtain ⟨-, gx, gy, gn⟩ := hg
        obtain ⟨jx, hjx, rfl⟩ : ∃ j : Nat, j < 4 ∧ x = 256 + (j : Int) := hs.1.elim (fun h => by omega) id
        obtain ⟨jy, hjy, rfl⟩ : ∃ j : Nat, j < 4 ∧ y = 256 + (j : Int) := hs.2.1.elim (fun h => by omega) id
        have jx2 : (256 + (jx : Int) - 256).toNat = jx := by omega
        have jy2 : (256 + (jy : Int) - 256).toNat = jy := by omega
        rw [jx2, jy2]
        refine J.grow G hjx hjy gn (fun h => ?_) fun r' hr' => ?_
        · by_cases hl : (br jx).length = (br jy).length
          · exact hl
          · rw [if_neg hl] at h; cases h
        · by_cases hl : (br jx).length = (br jy).length
          · rw [if_pos hl] at hr'; cases hr'
          · rw [if_neg hl] at hr'
            injection hr' with hr'
            subst hr'
            refine J.least ((now_iff hs.1 hs.2.1).mpr (.inr ⟨gx, gy, ?_⟩))
            rw [jx2, jy2]; exact hl
      · rw [if_neg hg, if_neg hg, if_neg hg, List.append_nil]
        refine J.drop (fun _ => ?_) (by simp)
        by_cases hxy : x = y
        · subst hxy
          exact J.same fun s h => h rfl
        · have gx : 256 ≤ x := by omega
          have gy : 256 ≤ y := by omega
          have gin : 1000 * x + y ∈ seen := by
            by_cases h : 1000 * x + y ∈ seen
            · exact h
            · exact absurd ⟨rfl, gx, gy, h⟩ hg
          obtain ⟨x', y', r0, k1, k2, k3, k4, k5, k6, k7⟩ := J.seenAt _ gin
          obtain ⟨jx, hjx, rfl⟩ : ∃ j : Nat, j < 4 ∧ x = 256 + (j : Int) := hs.1.elim (fun h => by omega) id
          obtain ⟨jy, hjy, rfl⟩ : ∃ j : Nat, j < 4 ∧ y = 256 + (j : Int) := hs.2.1.elim (fun h => by omega) id
          obtain rfl : jx = x' := by omega
          obtain rfl : jy = y' := by omega
          have h7 := k7 _ List.mem_cons_self
          exact fun t ht hd => J.pruned k4 k5 k6 h7 _ t (Nat.le_refl _) ht hd
end Mine
namespace Mine
open PySem
theorem fold_bounds : ∀ (s : List Nat) (c : Nat), Bits s → c * 2 ^ s.length ≤ s.foldl (fun c d => 2 * c + d) c ∧ s.foldl (fun c d => 2 * c + d) c < (c + 1) * 2 ^ s.length
  | [], c, _ => by simp
  | d :: s, c, h => by
    have hd : d < 2 := h d List.mem_cons_self
    obtain ⟨h1, h2⟩ := fold_bounds s (2 * c + d) fun x hx => h x (List.mem_cons_of_mem _ hx)
    simp only [List.foldl_cons, List.length_cons]
    rw [Nat.pow_succ]
    generalize 2 ^ s.length = w at *
    have e1 : (2 * c + d) * w = 2 * (c * w) + d * w := by rw [Nat.add_mul, Nat.mul_assoc]
    have e2 : (2 * c + d + 1) * w = 2 * (c * w) + d * w + w := by rw [Nat.add_mul, e1, Nat.one_mul]
    have e3 : c * (w * 2) = 2 * (c * w) := by rw [← Nat.mul_assoc, Nat.mul_comm]
    have e4 : (c + 1) * (w * 2) = 2 * (c * w) + 2 * w := by rw [Nat.add_mul, e3, Nat.one_mul, Nat.mul_comm w 2]
    have : d * w ≤ w := by
      have : d = 0 ∨ d = 1 := by omega
      rcases this with rfl | rfl <;> simp
    omega
theorem code_low {r : List Nat} (h : Bits r) : 2 ^ r.length ≤ code r := by have := (fold_bounds r 1 h).1; rw [Nat.one_mul] at this; exact this
theorem code_high {r : List Nat} (h : Bits r) : code r < 2 * 2 ^ r.length := (fold_bounds r 1 h).2
theorem code_short {r s : List Nat} (hr : Bits r) (hs : Bits s) (h : r.length < s.length) : code r < code s := by
  have h1 := code_high hr
  have h2 := code_low hs
  have : 2 * 2 ^ r.length ≤ 2 ^ s.length := by
    rw [Nat.mul_comm, ← Nat.pow_succ]
    exact Nat.pow_le_pow_right (by decide) h
  omega
/-- alike along all roads of at most k steps -/
def AgN (br : Nat → List Int) (k n m : Nat) : Prop := ∀ s, Bits s → s.length ≤ k → there br (256 + (n : Int)) s = there br (256 + (m : Int)) s
theorem AgN.refl {br k n} : AgN br k n n := fun _ _ _ => rfl
theorem AgN.symm {br k n m} (h : AgN br k n m) : AgN br k m n := fun s a b => (h s a b).symm
theorem AgN.trans {br k n m l} (h : AgN br k n m) (g : AgN br k m l) : AgN br k n l := fun s a b => (h s a b).trans (g s a b)
theorem AgN.less {br k l n m} (h : AgN br k n m) (hl : l ≤ k) : AgN br l n m := fun s a b => h s a (Nat.le_trans b hl)
theorem AgN.stable {br : Nat → List Int} (G : GOk br) {k : Nat} (h : ∀ n m, n < 4 → m < 4 → AgN br k n m → AgN br (k + 1) n m) : ∀ (s : List Nat), Bits s → ∀ n m, n < 4 → m < 4 → AgN br k n m → there br (256 + (n : Int)) s = there br (256 + (m : Int)) s
  | [], hs, n, m, hn, hm, ha => ha [] hs (Nat.zero_le _)
  | d :: s, hs, n, m, hn, hm, ha => by
    have hb := h n m hn hm ha
    have hd2 : d < 2 := hs d List.mem_cons_self
    have hs' : Bits s := fun x hx => hs x (List.mem_cons_of_mem _ hx)
    have h0 := ha [] (by simp [Bits]) (Nat.zero_le _)
    simp only [there] at h0
    rw [if_neg (by omega), if_neg (by omega), show (256 + (n : Int) - 256).toNat = n by omega, show (256 + (m : Int) - 256).toNat = m by omega] at h0
    have hl : (br n).length = (br m).length := by
      injection h0 with h0
      omega
    by_cases hd : d < (br n).length
    · have e1 := getD_of_lt hd
      have e2 := getD_of_lt (hl ▸ hd : d < (br m).length)
      have s1 := G.sym n hn _ (getD_mem hd)
      have s2 := G.sym m hm _ (getD_mem (hl ▸ hd : d < (br m).length))
      generalize (br n).getD d 0 = x at *
      generalize (br m).getD d 0 = y at *
      have key : ∀ u, Bits u → u.length ≤ k → there br x u = there br y u := fun u hu hk => by
        have := hb (d :: u) (fun c hc => by
          rcases List.mem_cons.mp hc with rfl | hc
          · exact hd2
          · exact hu c hc) (by simp; omega)
        rwa [there_kid e1, there_kid e2] at this
      rw [there_kid e1, there_kid e2]
      have k0 := key [] (by simp [Bits]) (Nat.zero_le _)
      simp only [there] at k0
      rcases s1 with ⟨x1, x2⟩ | ⟨j, hj, rfl⟩ <;> rcases s2 with ⟨y1, y2⟩ | ⟨i, hi, rfl⟩
      · rw [if_pos x2, if_pos y2] at k0
        injection k0 with k0
        rw [k0]
      · rw [if_pos x2, if_neg (by omega)] at k0
        injection k0 with k0
        omega
      · rw [if_neg (by omega), if_pos y2] at k0
        injection k0 with k0
        omega
      · exact stable G h s hs' j i hj hi key
    · rw [there_off (List.getElem?_eq_none (by omega)), there_off (List.getElem?_eq_none (by omega))]
/-- the number of classes of four -/
def cnt (e : Nat → Nat → Bool) : Nat := 1 + (!e 0 1).toNat + (!e 0 2 && !e 1 2).toNat + (!e 0 3 && !e 1 3 && !e 2 3).toNat
def tri3 (x y z : Bool) : Bool := (!(x && y) || z) && (!(x && z) || y) && (!(y && z) || x)
def triB (a01 a02 a03 a12 a13 a23 : Bool) : Bool := tri3 a01 a12 a02 && tri3 a01 a13 a03 && tri3 a02 a23 a03 && tri3 a12 a23 a13
def cntB (a01 a02 a03 a12 a13 a23 : Bool) : Nat := 1 + (!a01).toNat + (!a02 && !a12).toNat + (!a03 && !a13 && !a23).toNat
theorem cnt_lt' : ∀ a01 a02 a03 a12 a13 a23 : Bool, triB a01 a02 a03 a12 a13 a23 = true → ∀ b01 b02 b03 b12 b13 b23 : Bool, triB b01 b02 b03 b12 b13 b23 = true →
    ((!b01 || a01) && (!b02 || a02) && (!b03 || a03) && (!b12 || a12) && (!b13 || a13) && (!b23 || a23)) = true →
    ((!a01 || b01) && (!a02 || b02) && (!a03 || b03) && (!a12 || b12) && (!a13 || b13) && (!a23 || b23)) = false → cntB a01 a02 a03 a12 a13 a23 < cntB b01 b02 b03 b12 b13 b23 := by decide +kernel
theorem cnt_le' : ∀ a01 a02 a03 a12 a13 a23 : Bool, ∀ b01 b02 b03 b12 b13 b23 : Bool,
    ((!b01 || a01) && (!b02 || a02) && (!b03 || a03) && (!b12 || a12) && (!b13 || a13) && (!b23 || a23)) = true → cntB a01 a02 a03 a12 a13 a23 ≤ cntB b01 b02 b03 b12 b13 b23 := by decide +kernel
structure EqB (e : Nat → Nat → Bool) : Prop where
  symm : ∀ n m, e n m = true → e m n = true
  trans : ∀ n m l, e n m = true → e m l = true → e n l = true
theorem EqB.tr3 {e : Nat → Nat → Bool} (h : EqB e) (i j k : Nat) : tri3 (e i j) (e j k) (e i k) = true := by
  have h1 := h.trans i j k
  have h2 := fun p => h.trans j i k (h.symm i j p)
  have h3 := fun p q => h.trans i k j p (h.symm j k q)
  cases e1 : e i j <;> cases e2 : e j k <;> cases e3 : e i k <;> simp_all [tri3]
theorem EqB.tr {e : Nat → Nat → Bool} (h : EqB e) : triB (e 0 1) (e 0 2) (e 0 3) (e 1 2) (e 1 3) (e 2 3) = true := by
  simp only [triB, h.tr3, Bool.and_self]
theorem imp_or {a b : Bool} (h : b = true → a = true) : (!b || a) = true := by cases a <;> cases b <;> simp_all
theorem cnt_le {e f : Nat → Nat → Bool} (h : ∀ n m, n < 4 → m < 4 → f n m = true → e n m = true) : cnt e ≤ cnt f := by
  refine cnt_le' _ _ _ _ _ _ _ _ _ _ _ _ ?_
  simp only [Bool.and_eq_true]
  refine ⟨⟨⟨⟨⟨imp_or ?_, imp_or ?_⟩, imp_or ?_⟩, imp_or ?_⟩, imp_or ?_⟩, imp_or ?_⟩ <;> exact h _ _ (by decide) (by decide)
theorem cnt_lt {e f : Nat → Nat → Bool} (he : EqB e) (hf : EqB f) (hr : ∀ n, e n n = true) (hr' : ∀ n, f n n = true) (h : ∀ n m, n < 4 → m < 4 → f n m = true → e n m = true) {n m : Nat} (hn : n < 4) (hm : m < 4) (h1 : e n m = true) (h2 : f n m = false) : cnt e < cnt f := by
  refine cnt_lt' _ _ _ _ _ _ he.tr _ _ _ _ _ _ hf.tr ?_ ?_
  · simp only [Bool.and_eq_true]
    refine ⟨⟨⟨⟨⟨imp_or ?_, imp_or ?_⟩, imp_or ?_⟩, imp_or ?_⟩, imp_or ?_⟩, imp_or ?_⟩ <;> exact h _ _ (by decide) (by decide)
  · have key : ∀ n m, n < m → m < 4 → e n m = true → f n m = false → ((!e 0 1 || f 0 1) && (!e 0 2 || f 0 2) && (!e 0 3 || f 0 3) && (!e 1 2 || f 1 2) && (!e 1 3 || f 1 3) && (!e 2 3 || f 2 3)) = false := fun n m hnm hm h1 h2 => by
      have : (n = 0 ∧ m = 1) ∨ (n = 0 ∧ m = 2) ∨ (n = 0 ∧ m = 3) ∨ (n = 1 ∧ m = 2) ∨ (n = 1 ∧ m = 3) ∨ (n = 2 ∧ m = 3) := by omega
      rcases this with ⟨rfl, rfl⟩ | ⟨rfl, rfl⟩ | ⟨rfl, rfl⟩ | ⟨rfl, rfl⟩ | ⟨rfl, rfl⟩ | ⟨rfl, rfl⟩ <;> simp [h1, h2]
    by_cases hnm : n = m
    · subst hnm; rw [hr'] at h2; cases h2
    · by_cases hlt : n < m
      · exact key n m hlt hm h1 h2
      · refine key m n (by omega) hn (he.symm _ _ h1) ?_
        cases q : f m n
        · rfl
        · rw [hf.symm _ _ q] at h2; cases h2
end Mine
namespace Mine
open PySem
theorem roads_all {s : List Nat} (hs : Bits s) (hl : s.length ≤ 3) : code s - 1 < 15 ∧ roads15.getD (code s - 1) [] = s := by
  match s, hl with
  | [], _ => exact ⟨by decide, rfl⟩
  | [a], _ =>
    have h1 : a < 2 := hs a (by simp)
    have : a = 0 ∨ a = 1 := by omega
    rcases this with rfl | rfl <;> exact ⟨by decide, rfl⟩
  | [a, b], _ =>
    have h1 : a < 2 := hs a (by simp)
    have h2 : b < 2 := hs b (by simp)
    have e1 : a = 0 ∨ a = 1 := by omega
    have e2 : b = 0 ∨ b = 1 := by omega
    rcases e1 with rfl | rfl <;> rcases e2 with rfl | rfl <;> exact ⟨by decide, rfl⟩
  | [a, b, c], _ =>
    have h1 : a < 2 := hs a (by simp)
    have h2 : b < 2 := hs b (by simp)
    have h3 : c < 2 := hs c (by simp)
    have e1 : a = 0 ∨ a = 1 := by omega
    have e2 : b = 0 ∨ b = 1 := by omega
    have e3 : c = 0 ∨ c = 1 := by omega
    rcases e1 with rfl | rfl <;> rcases e2 with rfl | rfl <;> rcases e3 with rfl | rfl <;> exact ⟨by decide, rfl⟩
  | a :: b :: c :: d :: s, hl => simp at hl
theorem roads_bits : ∀ ds ∈ roads15, (∀ d ∈ ds, d < 2) ∧ ds.length ≤ 3 := by decide
theorem roads_code : ∀ k, k < 15 → code (roads15.getD k []) = k + 1 := by decide
theorem roads_mem {k : Nat} (h : k < 15) : roads15.getD k [] ∈ roads15 := by
  have : k < roads15.length := h
  simp [List.getD, List.getElem?_eq_getElem this]
theorem row_getD {br : Nat → List Int} {n k : Nat} (h : k < 15) : (rowL br n).getD k none = there br (256 + (n : Int)) (roads15.getD k []) := by
  have : k < roads15.length := h
  simp [rowL, List.getD, List.getElem?_map, List.getElem?_eq_getElem this]
theorem ag_row {br : Nat → List Int} {n m : Nat} : AgN br 3 n m ↔ rowL br n = rowL br m := by
  unfold rowL
  rw [List.map_inj_left]
  constructor
  · exact fun h ds hd => h ds (roads_bits ds hd).1 (roads_bits ds hd).2
  · intro h s hs hl
    obtain ⟨h1, h2⟩ := roads_all hs hl
    have := h _ (roads_mem h1)
    rwa [h2] at this
theorem len_cnt {br : Nat → List Int} : (unlikeL br).length = cnt fun m n => decide (rowL br m = rowL br n) := by
  unfold unlikeL cnt
  have : ∀ e : Nat → Nat → Bool, ((List.range 4).filter fun n => !((List.range n).any fun m => e m n)).length = 1 + (!e 0 1).toNat + (!e 0 2 && !e 1 2).toNat + (!e 0 3 && !e 1 3 && !e 2 3).toNat := fun e => by
    have h4 : List.range 4 = [0, 1, 2, 3] := rfl
    have h3 : List.range 3 = [0, 1, 2] := rfl
    have h2 : List.range 2 = [0, 1] := rfl
    have h1 : List.range 1 = [0] := rfl
    have h0 : List.range 0 = [] := rfl
    simp only [h4, List.filter_cons, h3, h2, h1, h0, List.any_cons, List.any_nil, Bool.or_false, List.filter_nil]
    cases e 0 1 <;> cases e 0 2 <;> cases e 1 2 <;> cases e 0 3 <;> cases e 1 3 <;> cases e 2 3 <;> rfl
  exact this fun m n => decide (rowL br m = rowL br n)
noncomputable def eK (br : Nat → List Int) (k : Nat) (n m : Nat) : Bool := @decide (AgN br k n m) (Classical.propDecidable _)
theorem eK_iff {br k n m} : eK br k n m = true ↔ AgN br k n m := by unfold eK; simp
theorem eK_eq {br k} : EqB (eK br k) := ⟨fun n m h => eK_iff.mpr (eK_iff.mp h).symm, fun n m l h g => eK_iff.mpr ((eK_iff.mp h).trans (eK_iff.mp g))⟩
theorem cnt_le4 (e : Nat → Nat → Bool) : cnt e ≤ 4 := by
  have h : ∀ b : Bool, b.toNat ≤ 1 := by decide
  have h1 := h (!e 0 1)
  have h2 := h (!e 0 2 && !e 1 2)
  have h3 := h (!e 0 3 && !e 1 3 && !e 2 3)
  unfold cnt
  omega
theorem cnt_grow {br : Nat → List Int} (G : GOk br) {a b : Nat} (ha : a < 4) (hb : b < 4) {t : List Nat} (ht : Bits t) (hd : Diff br (256 + (a : Int)) (256 + (b : Int)) t) (hl : ∀ k, k < t.length → AgN br k a b) : ∀ k, k ≤ t.length → k + 1 ≤ cnt (eK br k)
  | 0, _ => by unfold cnt; omega
  | k + 1, h => by
    have ih := cnt_grow G ha hb ht hd hl k (by omega)
    have : ¬ ∀ n m, n < 4 → m < 4 → AgN br k n m → AgN br (k + 1) n m := fun hs => hd (AgN.stable G hs t ht a b ha hb (hl k (by omega)))
    obtain ⟨n, m, hn, hm, h1, h2⟩ : ∃ n m, n < 4 ∧ m < 4 ∧ AgN br k n m ∧ ¬ AgN br (k + 1) n m := by
      apply Classical.byContradiction
      intro hc
      refine this fun n m hn hm h1 => Classical.byContradiction fun h2 => hc ⟨n, m, hn, hm, h1, h2⟩
    have := cnt_lt (e := eK br k) (f := eK br (k + 1)) eK_eq eK_eq (fun n => eK_iff.mpr .refl) (fun n => eK_iff.mpr .refl) (fun n m _ _ h => eK_iff.mpr ((eK_iff.mp h).less (Nat.le_succ _))) hn hm (eK_iff.mpr h1) (by
      cases q : eK br (k + 1) n m
      · rfl
      · exact absurd (eK_iff.mp q) h2)
    omega
/-- Moore -/
theorem least_short {br : Nat → List Int} (G : GOk br) {a b : Nat} (ha : a < 4) (hb : b < 4) {t : List Nat} (ht : Bits t) (hd : Diff br (256 + (a : Int)) (256 + (b : Int)) t) (hl : ∀ s, Bits s → Diff br (256 + (a : Int)) (256 + (b : Int)) s → code t ≤ code s) : t.length ≤ 3 ∧ t.length < (unlikeL br).length := by
  have h1 := cnt_grow G ha hb ht hd (fun k hk s hs hsl => Classical.byContradiction fun hc => by
    have := hl s hs hc
    have := code_short hs ht (by omega : s.length < t.length)
    omega) t.length (Nat.le_refl _)
  have h2 := cnt_le4 (eK br t.length)
  have h3 : t.length ≤ 3 := by omega
  have h4 : cnt (eK br t.length) ≤ cnt (eK br 3) := cnt_le fun n m _ _ h => eK_iff.mpr ((eK_iff.mp h).less h3)
  have h5 : eK br 3 = fun m n => decide (rowL br m = rowL br n) := by
    funext m n
    rw [Bool.eq_iff_iff, eK_iff, ag_row]
    simp
  rw [h5, ← len_cnt] at h4
  exact ⟨h3, by omega⟩
theorem pk_iff {br : Nat → List Int} {q : Nat × Nat} {k : Nat} (hk : k < 15) : pk br q k = true ↔ (roads15.getD k []).length < (unlikeL br).length ∧ Diff br (256 + (q.1 : Int)) (256 + (q.2 : Int)) (roads15.getD k []) := by
  unfold pk Diff
  rw [row_getD hk, row_getD hk]
  simp
theorem due_none {br : Nat → List Int} {q : Nat × Nat} (h : ∀ t, Bits t → ¬ Diff br (256 + (q.1 : Int)) (256 + (q.2 : Int)) t) : due br q = none := by
  unfold due
  have : (List.range 15).find? (pk br q) = none := by
    rw [List.find?_eq_none]
    intro k hk hp
    have hk := List.mem_range.mp hk
    exact h _ (roads_bits _ (roads_mem hk)).1 ((pk_iff hk).mp hp).2
  rw [this]; rfl
theorem due_some {br : Nat → List Int} (G : GOk br) {q : Nat × Nat} (hq : q.1 < 4 ∧ q.2 < 4) {t : List Nat} (ht : Bits t) (hd : Diff br (256 + (q.1 : Int)) (256 + (q.2 : Int)) t) (hl : ∀ s, Bits s → Diff br (256 + (q.1 : Int)) (256 + (q.2 : Int)) s → code t ≤ code s) : due br q = some t := by
  obtain ⟨h1, h2⟩ := least_short G hq.1 hq.2 ht hd hl
  obtain ⟨h3, h4⟩ := roads_all ht h1
  unfold due
  have : (List.range 15).find? (pk br q) = some (code t - 1) := by
    rw [List.find?_range_eq_some]
    refine ⟨(pk_iff h3).mpr ⟨by rw [h4]; exact h2, by rw [h4]; exact hd⟩, List.mem_range.mpr h3, fun j hj => ?_⟩
    have hj15 : j < 15 := by omega
    cases hp : pk br q j
    · rfl
    · have h5 := hl _ (roads_bits _ (roads_mem hj15)).1 ((pk_iff hj15).mp hp).2
      rw [roads_code j hj15] at h5
      omega
  rw [this, Option.map_some, h4]
end Mine
set_option maxRecDepth 100000
namespace Mine
open PySem PyProof.Rows
abbrev scL : Scope := (defP 64).scope
def lawSt (i : Nat) : Stmt := stAt (bodyOf (defAt pw 64)) i
theorem cut_to {α : Type} (xs : List α) (k : Nat) : cutL xs none (some (k : Int)) = xs.take k := by
  have h : ¬ ((k : Int) < 0) := by omega
  simp only [cutL, cut, h, if_false, List.drop_zero, Int.toNat_natCast]
  rw [List.take_eq_take_iff]
  omega
theorem cut_from {α : Type} (xs : List α) (k : Nat) : cutL xs (some (k : Int)) none = xs.drop k := by
  have h : ¬ ((k : Int) < 0) := by omega
  simp only [cutL, cut, h, if_false, Int.toNat_natCast, List.take_length]
  by_cases hk : k ≤ xs.length
  · rw [Nat.min_eq_left hk]
  · rw [Nat.min_eq_right (by omega), List.drop_length, List.drop_eq_nil_of_le (by omega)]
section
variable {c : Cfg} {Φ : Fns} {csc : Scope} {m : Fm} {σ : Sto} {p : Pos} {x : Str} {elt : Expr} {v : AV} {xs : List AV}
theorem comp_map (f : List AV) (hx : ∀ v, setv csc m x v = some (m.set x v)) (hfr : (m x).isNone = true) (hv : items? σ v = some xs) (hlen : xs.length ≤ 1000) (hl : f.length = xs.length)
    (he : ∀ i (h : i < xs.length), ev c Φ elt csc (m.set x xs[i]) σ = some (f[i], σ)) {P : Acc × Sto → Prop} (hP : P (⟨.ki [], f⟩, σ)) : Sat (compA csc (.val v) (.Name x p) m (trs c Φ [] csc) (gens c Φ (emitL (ev c Φ elt csc)) [] csc) ⟨.ki [], []⟩ σ) P := by
  refine compA_inv (xs := xs) (I := fun i b => b = (⟨.ki [], f.take i⟩, σ)) ⟨rfl, hfr⟩ (by simp) (fun i b h => by rw [h]; exact hv) (fun b h => ?_) (fun i b hi h => ?_)
  · rw [h, ← hl, List.take_length]; exact hP
  · subst h
    refine .eq (a := m.set x xs[i]) (by show setv csc m x xs[i] = _; exact hx _) (t_trs0 ?_)
    rw [if_pos rfl]
    refine q_gens0 (q_emitL (.eq (he i hi) ⟨?_, ?_⟩))
    · simp; omega
    · rw [List.take_add_one, List.getElem?_eq_getElem (by omega)]; rfl
end
theorem mkL_f {p : Pos} {xs : List AV} {σ : Sto} (h : cfgP.mu p = false) : mkL cfgP p xs σ = (.list xs, σ) := by unfold mkL; rw [h]; rfl
/-- the script's numbers -/
def numsOf (zs : List Int) : List Int := (zs.take 5 ++ ([1, 72, 96, 52, 72] : List Int).drop (zs.take 5).length).map fun x => x.fmod 1000000
theorem numsOf_len {zs : List Int} : (numsOf zs).length = 5 := by simp [numsOf]; omega
theorem numsOf_bd {zs : List Int} : ∀ n ∈ numsOf zs, 0 ≤ n ∧ n < 1000000 := fun n hn => by
  obtain ⟨x, _, rfl⟩ := List.mem_map.mp hn
  exact ⟨Int.fmod_nonneg_of_pos _ (by decide), Int.fmod_lt_of_pos _ (by decide)⟩
theorem law_numbers {Φ : Fns} {m : Fm} {σ : Sto} {zs : List Int} (h1 : m "script" = some (.list (zs.map AV.int))) (hlen : zs.length ≤ 63) {P : Fl × Fm × Sto → Prop} (hP : P (.next, m.set "numbers" (.list ((numsOf zs).map AV.int)), σ)) : Sat (ex cfgP Φ (lawSt 0) scL m σ) P := by
  have hsl : ∀ {p : Pos} {σ : Sto}, cfgP.mu p = false → sliceA cfgP p σ (.list (zs.map AV.int)) none (some 5) = some (.list ((zs.take 5).map AV.int), σ) := fun {p σ} h => by
    show some (mkL cfgP p (cutL (zs.map AV.int) none (some ((5 : Nat) : Int))) σ) = _
    rw [cut_to, mkL_f h, List.map_take]
  have hl5 : (zs.take 5).length ≤ 5 := by simp; omega
  refine x_assign rfl (by kernel_rfl) <| q_listcomp (by kernel_rfl) <| q_src rfl <| q_bin <| q_slice <| q_name (Eq.trans (b := m "script") (by kernel_rfl) h1) <| q_none <| q_some <| .eq rfl <| .eq rfl <| .eq rfl <| .eq (hsl (by kernel_rfl)) ?_
  refine q_slice <| .eq (a := (.list (([1, 72, 96, 52, 72] : List Int).map AV.int), σ)) (by kernel_rfl) <| q_some <| q_call rfl (g := .bi "len") (by kernel_rfl) <| q_cons <| q_slice <| q_name (Eq.trans (b := m "script") (by kernel_rfl) h1) <| q_none <| q_some <| .eq rfl <| .eq rfl <| .eq rfl <| .eq (hsl (by kernel_rfl)) <| q_nil ?_
  refine .eq (a := (.int (zs.take 5).length, σ)) ?_ <| q_none <| .eq rfl <| .eq rfl <| .eq (a := (.list ((([1, 72, 96, 52, 72] : List Int).drop (zs.take 5).length).map AV.int), σ)) ?_ <| .eq (a := (.list ((zs.take 5 ++ ([1, 72, 96, 52, 72] : List Int).drop (zs.take 5).length).map AV.int), σ)) ?_ ?_
  · show some (AV.int ((zs.take 5).map AV.int).length, σ) = _
    rw [List.length_map]
  · show some (mkL cfgP _ (cutL (([1, 72, 96, 52, 72] : List Int).map AV.int) (some (((zs.take 5).length : Nat) : Int)) none) σ) = _
    rw [cut_from, mkL_f (by kernel_rfl), List.map_drop]
  · show (if ((zs.take 5).map AV.int).length + ((([1, 72, 96, 52, 72] : List Int).drop (zs.take 5).length).map AV.int).length ≤ 2 ^ 20 then some (mkL cfgP _ ((zs.take 5).map AV.int ++ (([1, 72, 96, 52, 72] : List Int).drop (zs.take 5).length).map AV.int) σ) else none) = _
    rw [if_pos (by simp; omega), mkL_f (by kernel_rfl), List.map_append]
  · have e : numsOf zs = (zs.take 5 ++ ([1, 72, 96, 52, 72] : List Int).drop (zs.take 5).length).map fun x => x.fmod 1000000 := rfl
    have hl : (zs.take 5 ++ ([1, 72, 96, 52, 72] : List Int).drop (zs.take 5).length).length ≤ 1000 := by simp; omega
    rw [e] at hP
    generalize zs.take 5 ++ ([1, 72, 96, 52, 72] : List Int).drop (zs.take 5).length = L at *
    refine comp_map (xs := L.map AV.int) ((L.map fun x : Int => Int.fmod x 1000000).map AV.int) (fun v => by kernel_rfl) (by kernel_rfl) rfl (by simpa using hl) (by simp) (fun i hi => ?_) hP
    simp only [List.getElem_map]
    generalize L[i]'(by simpa using hi) = z
    kernel_rfl
end Mine
set_option maxRecDepth 100000
namespace Mine
open PySem PyProof.Rows
section
variable {c : Cfg} {Φ : Fns} {sc csc : Scope} {m : Fm} {σ : Sto}
theorem q_srcCall {f : Str} {g : AV} {a b : Expr} {p q : Pos} {w : Fm → Sto → Option (AV × Sto)} {Q : Src × Sto → Prop} (hg : look c sc m f = some g) (h : Sat (ev c Φ a sc m σ) fun x => Sat (ev c Φ b sc m x.2) fun y => Sat (srcCall c Φ p g x.1 y.1 y.2) Q) :
    Sat (evSrc c Φ (.Call (.Name f q) [a, b] [] p) w sc m σ) Q := by
  rw [evSrc, hg]; exact .bind (.eq rfl (.bind (h.mono fun x h => .bind h)))
theorem zipA_eq : ∀ xs ys : List AV, zipA xs ys = (xs.zip ys).map fun z => .tuple [z.1, z.2]
  | [], _ => by simp [zipA]
  | _ :: _, [] => by simp [zipA]
  | x :: xs, y :: ys => by simp [zipA, zipA_eq xs ys]
theorem take_snoc {α : Type} {l : List α} {i : Nat} (h : i < l.length) : l.take (i + 1) = l.take i ++ [l[i]] := by
  rw [List.take_add_one, List.getElem?_eq_getElem h]; rfl
theorem not_mem_take {α : Type} {l : List α} (h : l.Nodup) {i : Nat} (hi : i < l.length) : l[i] ∉ l.take i := fun hm => by
  obtain ⟨j, hj, e⟩ := List.mem_take_iff_getElem.mp hm
  exact List.pairwise_iff_getElem.mp h j i (by omega) hi (by omega) e
theorem comp_dictS {x y : Str} {px py pt q1 q2 : Pos} {k : Nat} (ks : List Str) (vs : List AV) (hnd : ks.Nodup) (hl : vs.length = ks.length) (hlen : ks.length ≤ 1000) (hx : ∀ m v, setv csc m x v = some (m.set x v)) (hy : ∀ m v, setv csc m y v = some (m.set y v)) (hfr : (m x).isNone = true ∧ (m y).isNone = true)
    (h1 : ∀ a b, look c csc ((m.set x a).set y b) x = some a) (h2 : ∀ a b, look c csc ((m.set x a).set y b) y = some b) {P : Acc × Sto → Prop} (hP : P (⟨.ks ks, vs⟩, σ)) :
    Sat (compA csc (.pairs (zipA (ks.map AV.str) vs)) (.Tuple [.Name x px, .Name y py] k pt) m (trs c Φ [] csc) (gens c Φ (emitD (ev c Φ (.Name x q1) csc) (ev c Φ (.Name y q2) csc)) [] csc) ⟨.ks [], []⟩ σ) P := by
  have hz : (zipA (ks.map AV.str) vs).length = ks.length := by rw [zipA_eq]; simp; omega
  refine compA_inv (xs := zipA (ks.map AV.str) vs) (I := fun i b => b = (⟨.ks (ks.take i), vs.take i⟩, σ)) ⟨rfl, by simp [freshT, hfr]⟩ (by simp) (fun i b h => rfl) (fun b h => ?_) (fun i b hi h => ?_)
  · have e1 : vs.take ks.length = vs := by rw [← hl, List.take_length]
    rw [h, hz, List.take_length, e1]; exact hP
  · subst h
    rw [hz] at hi
    have e : (zipA (ks.map AV.str) vs)[i]'(by omega) = .tuple [.str ks[i], vs[i]'(by omega)] := by simp [zipA_eq]
    rw [e]
    refine .eq (a := (m.set x (.str ks[i])).set y (vs[i]'(by omega))) (by show (setv csc m x _).bind (fun m => (setv csc m y _).bind fun m => some m) = _; rw [hx]; show (setv csc _ y _).bind _ = _; rw [hy]; rfl) (t_trs0 ?_)
    rw [if_pos rfl]
    refine q_gens0 (q_emitD (q_name (h1 _ _) (q_name (h2 _ _) (.eq (a := (.ks (ks.take (i + 1)), vs.take (i + 1))) ?_ rfl))))
    show (if (ks.take i).length < 2 ^ 20 then some (if ks[i] ∈ ks.take i then _ else _) else none) = _
    rw [if_pos (by simp; omega), if_neg (not_mem_take hnd hi), take_snoc hi, take_snoc (l := vs) (by omega)]
theorem comp_dictI {x y : Str} {px py pt q1 q2 : Pos} {k : Nat} (ks : List Int) (vs : List AV) (hnd : ks.Nodup) (hl : vs.length = ks.length) (hlen : ks.length ≤ 1000) (hx : ∀ m v, setv csc m x v = some (m.set x v)) (hy : ∀ m v, setv csc m y v = some (m.set y v)) (hfr : (m x).isNone = true ∧ (m y).isNone = true)
    (h1 : ∀ a b, look c csc ((m.set x a).set y b) x = some a) (h2 : ∀ a b, look c csc ((m.set x a).set y b) y = some b) {P : Acc × Sto → Prop} (hP : P (⟨.ki ks, vs⟩, σ)) :
    Sat (compA csc (.pairs (zipA (ks.map AV.int) vs)) (.Tuple [.Name x px, .Name y py] k pt) m (trs c Φ [] csc) (gens c Φ (emitD (ev c Φ (.Name x q1) csc) (ev c Φ (.Name y q2) csc)) [] csc) ⟨.ki [], []⟩ σ) P := by
  have hz : (zipA (ks.map AV.int) vs).length = ks.length := by rw [zipA_eq]; simp; omega
  refine compA_inv (xs := zipA (ks.map AV.int) vs) (I := fun i b => b = (⟨.ki (ks.take i), vs.take i⟩, σ)) ⟨rfl, by simp [freshT, hfr]⟩ (by simp) (fun i b h => rfl) (fun b h => ?_) (fun i b hi h => ?_)
  · have e1 : vs.take ks.length = vs := by rw [← hl, List.take_length]
    rw [h, hz, List.take_length, e1]; exact hP
  · subst h
    rw [hz] at hi
    have e : (zipA (ks.map AV.int) vs)[i]'(by omega) = .tuple [.int ks[i], vs[i]'(by omega)] := by simp [zipA_eq]
    rw [e]
    refine .eq (a := (m.set x (.int ks[i])).set y (vs[i]'(by omega))) (by show (setv csc m x _).bind (fun m => (setv csc m y _).bind fun m => some m) = _; rw [hx]; show (setv csc _ y _).bind _ = _; rw [hy]; rfl) (t_trs0 ?_)
    rw [if_pos rfl]
    refine q_gens0 (q_emitD (q_name (h1 _ _) (q_name (h2 _ _) (.eq (a := (.ki (ks.take (i + 1)), vs.take (i + 1))) ?_ rfl))))
    show (if (ks.take i).length < 2 ^ 20 then some (if ks[i] ∈ ks.take i then _ else _) else none) = _
    rw [if_pos (by simp; omega), if_neg (not_mem_take hnd hi), take_snoc hi, take_snoc (l := vs) (by omega)]
end
/-- the letter x stands for one of these -/
def othersL : List Nat := (List.range 6).map (· + 1) ++ (List.range 201).map (· + 55)
def OthOk (o : Nat) : Prop := (1 ≤ o ∧ o ≤ 6) ∨ (55 ≤ o ∧ o ≤ 255)
instance {o : Nat} : Decidable (OthOk o) := by unfold OthOk; infer_instance
theorem othersL_ok : ∀ o ∈ othersL, OthOk o := by decide +kernel
def n5 (n0 n1 n2 n3 n4 : Int) : AV := .list [.int n0, .int n1, .int n2, .int n3, .int n4]
theorem fmod_nat (n : Int) (k : Nat) (hk : 0 < k) : ∃ i : Nat, i < k ∧ n.fmod (k : Int) = (i : Int) := by
  have h1 := Int.fmod_nonneg_of_pos n (b := (k : Int)) (by omega)
  have h2 := Int.fmod_lt_of_pos n (b := (k : Int)) (by omega)
  exact ⟨(n.fmod k).toNat, by omega, by omega⟩
theorem law_other {Φ : Fns} {m : Fm} {σ : Sto} {n0 n1 n2 n3 n4 : Int} (h1 : m "numbers" = some (n5 n0 n1 n2 n3 n4)) {P : Fl × Fm × Sto → Prop} (hP : ∀ o : Nat, OthOk o → P (.next, m.set "other" (.int (o : Nat)), σ)) : Sat (ex cfgP Φ (lawSt 1) scL m σ) P := by
  obtain ⟨i, hi, ei⟩ := fmod_nat n0 207 (by decide)
  have hl : i < othersL.length := hi
  refine x_assign rfl (by kernel_rfl) <| q_sub rfl <| .eq (a := (.list (othersL.map fun (o : Nat) => AV.int (o : Nat)), σ)) (by kernel_rfl) <| q_bin <| q_sub rfl <| q_name (Eq.trans (b := m "numbers") (by kernel_rfl) h1) <| .eq rfl <| .eq (a := .int n0) rfl <| .eq rfl <|
    .eq (a := (.int (i : Nat), σ)) ?_ <| .eq (a := .int (othersL[i] : Nat)) ?_ <| hP _ (othersL_ok _ (List.getElem_mem hl))
  · show some (AV.int (n0.fmod 207), σ) = _
    rw [show n0.fmod 207 = (i : Int) from ei]
  · refine getA_list ?_
    rw [List.getElem?_map, List.getElem?_eq_getElem hl]
    rfl
theorem law_signs {Φ : Fns} {m : Fm} {σ : Sto} {P : Fl × Fm × Sto → Prop} (hP : P (.next, m.set "signs" (.list (signs48.map AV.str)), σ)) : Sat (ex cfgP Φ (lawSt 2) scL m σ) P :=
  x_assign rfl (by kernel_rfl) (.eq (a := (.list (signs48.map AV.str), σ)) (by kernel_rfl) hP)
def namesI (i : Nat) : List Str := ((names6 ++ names6).drop i).take 4
theorem law_names {Φ : Fns} {m : Fm} {σ : Sto} {n0 n1 n2 n3 n4 : Int} (h1 : m "numbers" = some (n5 n0 n1 n2 n3 n4)) {P : Fl × Fm × Sto → Prop} (hP : ∀ i : Nat, i < 6 → P (.next, m.set "names" (.list ((namesI i).map AV.str)), σ)) : Sat (ex cfgP Φ (lawSt 3) scL m σ) P := by
  obtain ⟨i, hi, ei⟩ := fmod_nat (n0.fdiv 2352) 6 (by decide)
  refine x_assign rfl (by kernel_rfl) <| q_slice <| q_slice <| .eq (a := (.list ((names6 ++ names6).map AV.str), σ)) (by kernel_rfl) <| q_some <| q_bin <| q_bin <| q_sub rfl <| q_name (Eq.trans (b := m "numbers") (by kernel_rfl) h1) <| .eq rfl <| .eq (a := .int n0) rfl <| .eq rfl <|
    .eq (a := (.int (n0.fdiv 2352), σ)) rfl <| .eq rfl <| .eq (a := (.int (i : Nat), σ)) ?_ <| q_none <| .eq rfl <| .eq rfl <| .eq (a := (.list (((names6 ++ names6).drop i).map AV.str), σ)) ?_ <| q_none <| q_some <| .eq rfl <| .eq rfl <| .eq rfl <| .eq (a := (.list ((namesI i).map AV.str), σ)) ?_ <| hP i hi
  · show some (AV.int ((n0.fdiv 2352).fmod 6), σ) = _
    rw [show (n0.fdiv 2352).fmod 6 = (i : Int) from ei]
  · show some (mkL cfgP _ (cutL _ (some (i : Int)) none) σ) = _
    rw [cut_from, mkL_f (by kernel_rfl), List.map_drop]
  · show some (mkL cfgP _ (cutL _ none (some ((4 : Nat) : Int))) σ) = _
    rw [cut_to, mkL_f (by kernel_rfl), namesI, List.map_take]
def kindsO (o : Nat) : List Int := (o : Int) :: (List.range 48).map fun (i : Nat) => 7 + (i : Int)
theorem law_kinds {Φ : Fns} {m : Fm} {σ : Sto} {n0 n1 n2 n3 n4 : Int} {o : Nat} (h1 : m "numbers" = some (n5 n0 n1 n2 n3 n4)) (h2 : m "other" = some (.int (o : Nat))) {P : Fl × Fm × Sto → Prop}
    (hP : ∀ f : Nat, f < 49 → P (.next, (m.set "kinds" (.list ((kindsO o).map AV.int))).set "first" (.int (f : Nat)), σ)) : Sat (ex cfgP Φ (lawSt 4) scL m σ) P := by
  obtain ⟨i, hi, ei⟩ := fmod_nat n0 49 (by decide)
  refine x_assignT (by kernel_rfl) <| q_tuple (by decide) <| q_cons <| q_bin <| q_list (by decide) <| q_cons <| q_name (Eq.trans (b := m "other") (by kernel_rfl) h2) <| q_nil <| .eq (a := (.list ((List.range 48).map fun (i : Nat) => AV.int (7 + (i : Int))), σ)) (by kernel_rfl) <|
    .eq (a := (.list ((kindsO o).map AV.int), σ)) (by kernel_rfl) <| q_cons <| q_bin <| q_sub rfl <| q_name (Eq.trans (b := m "numbers") (by kernel_rfl) h1) <| .eq rfl <| .eq (a := .int n0) rfl <| .eq rfl <| .eq (a := (.int (i : Nat), σ)) ?_ <| q_nil <| .eq (by kernel_rfl) <| hP i hi
  show some (AV.int (n0.fmod 49), σ) = _
  rw [show n0.fmod 49 = (i : Int) from ei]
end Mine
set_option maxRecDepth 100000
namespace Mine
open PySem PyProof.Rows
theorem add_lists {p : Pos} {xs ys : List AV} {σ : Sto} (h : cfgP.mu p = false) (hl : xs.length + ys.length ≤ 2 ^ 20) : binA cfgP p .Add (.list xs) (.list ys) σ = some (.list (xs ++ ys), σ) := by
  show (if xs.length + ys.length ≤ 2 ^ 20 then some (mkL cfgP p (xs ++ ys) σ) else none) = _
  rw [if_pos hl, mkL_f h]
theorem lk_get {K α : Type} [DecidableEq K] : ∀ (ks : List K) (vs : List α), ks.Nodup → ∀ k (h : k < ks.length), lk ks[k] ks vs = vs[k]?
  | [], _, _, k, h => by simp at h
  | x :: xs, [], _, k, h => by simp [lk]
  | x :: xs, v :: vs, hn, 0, h => by simp [lk]
  | x :: xs, v :: vs, hn, k + 1, h => by
    have hn' := List.nodup_cons.mp hn
    have hk : k < xs.length := by simpa using h
    have : x ≠ xs[k] := fun e => hn'.1 (e ▸ List.getElem_mem hk)
    simp only [lk, List.getElem_cons_succ, if_neg this, List.getElem?_cons_succ]
    exact lk_get xs vs hn'.2 k hk
def namesIs (i : Nat) : List Str := (["", "x"] : List Str) ++ namesI i
def toldA (i o : Nat) : AV := .dict (.ks (namesIs i)) (([0, (o : Int), 256, 257, 258, 259] : List Int).map AV.int)
def symsO (o : Nat) : List Int := [0] ++ kindsO o ++ [256, 257, 258, 259]
def wordsI (i : Nat) : List Str := (["", "x"] : List Str) ++ signs48 ++ namesI i
def writtenA (i o : Nat) : AV := .dict (.ki (symsO o)) ((wordsI i).map AV.str)
theorem six {i : Nat} (h : i < 6) : i = 0 ∨ i = 1 ∨ i = 2 ∨ i = 3 ∨ i = 4 ∨ i = 5 := by omega
theorem namesI_len {i : Nat} (h : i < 6) : (namesI i).length = 4 := by rcases six h with rfl | rfl | rfl | rfl | rfl | rfl <;> rfl
theorem namesIs_nodup {i : Nat} (h : i < 6) : (namesIs i).Nodup := by rcases six h with rfl | rfl | rfl | rfl | rfl | rfl <;> decide +kernel
theorem signs48_len : signs48.length = 48 := by kernel_rfl
theorem wordsI_len {i : Nat} (h : i < 6) : (wordsI i).length = 54 := by simp [wordsI, namesI_len h, signs48_len]
theorem symsO_len {o : Nat} : (symsO o).length = 54 := by simp [symsO, kindsO]
theorem kinds_mem {o : Nat} {s : Int} : s ∈ kindsO o ↔ s = (o : Int) ∨ (7 ≤ s ∧ s < 55) := by
  simp only [kindsO, List.mem_cons, List.mem_map, List.mem_range]
  constructor
  · rintro (h | ⟨j, h1, h2⟩)
    · exact .inl h
    · omega
  · rintro (h | ⟨h1, h2⟩)
    · exact .inl h
    · exact .inr ⟨(s - 7).toNat, by omega, by omega⟩
theorem syms_mem {o : Nat} {s : Int} : s ∈ symsO o ↔ s = 0 ∨ s ∈ kindsO o ∨ (256 ≤ s ∧ s < 260) := by
  simp only [symsO, List.mem_append, List.mem_cons, List.not_mem_nil, or_false]
  constructor
  · rintro ((h | h) | h)
    · exact .inl h
    · exact .inr (.inl h)
    · exact .inr (.inr (by omega))
  · rintro (h | h | h)
    · exact .inl (.inl h)
    · exact .inl (.inr h)
    · exact .inr (by omega)
theorem range_nodup (n a : Nat) : ((List.range n).map fun (i : Nat) => (a : Int) + (i : Int)).Nodup := by
  refine List.pairwise_map.mpr (List.Pairwise.imp (fun {x y} h => ?_) (List.pairwise_lt_range (n := n)))
  omega
theorem symsO_nodup {o : Nat} (h : OthOk o) : (symsO o).Nodup := by
  unfold OthOk at h
  show (0 :: (o : Int) :: (((List.range 48).map fun (i : Nat) => 7 + (i : Int)) ++ [256, 257, 258, 259])).Nodup
  have hm : ∀ x : Int, x ∈ ((List.range 48).map fun (i : Nat) => 7 + (i : Int)) ++ [256, 257, 258, 259] → (7 ≤ x ∧ x < 55) ∨ 256 ≤ x := fun x hx => by
    simp only [List.mem_append, List.mem_map, List.mem_range, List.mem_cons, List.not_mem_nil, or_false] at hx
    rcases hx with ⟨j, h1, h2⟩ | hx <;> omega
  refine List.nodup_cons.mpr ⟨fun hx => ?_, List.nodup_cons.mpr ⟨fun hx => ?_, List.nodup_append.mpr ⟨range_nodup 48 7, by decide, fun a ha b hb => ?_⟩⟩⟩
  · rcases List.mem_cons.mp hx with hx | hx
    · omega
    · have := hm _ hx; omega
  · have := hm _ hx; omega
  · simp only [List.mem_map, List.mem_range] at ha
    obtain ⟨j, h1, h2⟩ := ha
    simp only [List.mem_cons, List.not_mem_nil, or_false] at hb
    omega
theorem law_told {Φ : Fns} {m : Fm} {σ : Sto} {i o : Nat} (hi : i < 6) (h1 : m "names" = some (.list ((namesI i).map AV.str))) (h2 : m "other" = some (.int (o : Nat))) {P : Fl × Fm × Sto → Prop} (hP : P (.next, m.set "told" (toldA i o), σ)) : Sat (ex cfgP Φ (lawSt 5) scL m σ) P := by
  refine x_assign rfl (by kernel_rfl) <| q_dictcomp (by kernel_rfl) <| q_srcCall (g := .bi "zip") (by kernel_rfl) <| q_bin <| .eq (a := (.list ((["", "x"] : List Str).map AV.str), σ)) (by kernel_rfl) <| q_name (Eq.trans (b := m "names") (by kernel_rfl) h1) <|
    .eq (add_lists (by kernel_rfl) (by simp [namesI_len hi])) <| q_list (by decide) <| q_cons <| .eq rfl <| q_cons <| q_name (Eq.trans (b := m "other") (by kernel_rfl) h2) <| q_cons <| .eq rfl <| q_cons <| .eq rfl <| q_cons <| .eq rfl <| q_cons <| .eq rfl <| q_nil <| .eq rfl ?_
  simp only
  rw [← List.map_append]
  exact comp_dictS (namesIs i) (([0, (o : Int), 256, 257, 258, 259] : List Int).map AV.int) (namesIs_nodup hi) (by simp [namesIs, namesI_len hi]) (by simp [namesIs, namesI_len hi]) (fun m v => by kernel_rfl) (fun m v => by kernel_rfl) ⟨by kernel_rfl, by kernel_rfl⟩ (fun a b => by kernel_rfl) (fun a b => by kernel_rfl) hP
theorem law_writ {Φ : Fns} {m : Fm} {σ : Sto} {i o : Nat} (hi : i < 6) (ho : OthOk o) (h1 : m "names" = some (.list ((namesI i).map AV.str))) (h2 : m "kinds" = some (.list ((kindsO o).map AV.int))) (h3 : m "signs" = some (.list (signs48.map AV.str))) {P : Fl × Fm × Sto → Prop}
    (hP : P (.next, m.set "written" (writtenA i o), σ)) : Sat (ex cfgP Φ (lawSt 6) scL m σ) P := by
  refine x_assign rfl (by kernel_rfl) <| q_dictcomp (by kernel_rfl) <| q_srcCall (g := .bi "zip") (by kernel_rfl) <| q_bin <| q_bin <| .eq (a := (.list (([0] : List Int).map AV.int), σ)) (by kernel_rfl) <| q_name (Eq.trans (b := m "kinds") (by kernel_rfl) h2) <|
    .eq (add_lists (by kernel_rfl) (by simp [kindsO])) <| .eq (a := (.list (([256, 257, 258, 259] : List Int).map AV.int), σ)) (by kernel_rfl) <| .eq (add_lists (by kernel_rfl) (by simp [kindsO])) <|
    q_bin <| q_bin <| .eq (a := (.list ((["", "x"] : List Str).map AV.str), σ)) (by kernel_rfl) <| q_name (Eq.trans (b := m "signs") (by kernel_rfl) h3) <| .eq (add_lists (by kernel_rfl) (by simp [signs48_len])) <|
    q_name (Eq.trans (b := m "names") (by kernel_rfl) h1) <| .eq (add_lists (by kernel_rfl) (by simp [signs48_len, namesI_len hi])) <| .eq rfl ?_
  simp only
  rw [← List.map_append, ← List.map_append, ← List.map_append, ← List.map_append]
  exact comp_dictI (symsO o) ((wordsI i).map AV.str) (symsO_nodup ho) (by rw [List.length_map, wordsI_len hi, symsO_len]) (by rw [symsO_len]; decide) (fun m v => by kernel_rfl) (fun m v => by kernel_rfl) ⟨by kernel_rfl, by kernel_rfl⟩ (fun a b => by kernel_rfl) (fun a b => by kernel_rfl) hP
theorem law_symbols {Φ : Fns} {m : Fm} {σ : Sto} {n0 n1 n2 n3 n4 : Int} {f o : Nat} (hf : f < 49) (h1 : m "numbers" = some (n5 n0 n1 n2 n3 n4)) (h2 : m "kinds" = some (.list ((kindsO o).map AV.int))) (h3 : m "first" = some (.int (f : Nat))) {P : Fl × Fm × Sto → Prop}
    (hP : ∀ a b, a ∈ kindsO o → b ∈ kindsO o → P (.next, m.set "symbols" (.list (([a, b, 256, 257, 258, 259] : List Int).map AV.int)), σ)) : Sat (ex cfgP Φ (lawSt 7) scL m σ) P := by
  obtain ⟨j, hj, ej⟩ := fmod_nat ((f : Int) + 1 + (n0.fdiv 49).fmod 48) 49 (by decide)
  have hl : (kindsO o).length = 49 := by simp [kindsO]
  have hat : ∀ {σ : Sto} (j : Nat) (h : j < (kindsO o).length), getA σ (.list ((kindsO o).map AV.int)) (.int (j : Nat)) = some (.int (kindsO o)[j]) := fun {σ} j h => getA_list (by rw [List.getElem?_map, List.getElem?_eq_getElem h]; rfl)
  refine x_assign rfl (by kernel_rfl) <| q_list (by decide) <| q_cons <| q_sub rfl <| q_name (Eq.trans (b := m "kinds") (by kernel_rfl) h2) <| q_name (Eq.trans (b := m "first") (by kernel_rfl) h3) <| .eq (hat f (by omega)) <|
    q_cons <| q_sub rfl <| q_name (Eq.trans (b := m "kinds") (by kernel_rfl) h2) <| q_bin <| q_bin <| q_bin <| q_name (Eq.trans (b := m "first") (by kernel_rfl) h3) <| .eq rfl <| .eq rfl <|
    q_bin <| q_bin <| q_sub rfl <| q_name (Eq.trans (b := m "numbers") (by kernel_rfl) h1) <| .eq rfl <| .eq (a := .int n0) rfl <| .eq rfl <| .eq (a := (.int (n0.fdiv 49), σ)) rfl <| .eq rfl <| .eq (a := (.int ((n0.fdiv 49).fmod 48), σ)) rfl <| .eq rfl <| .eq rfl <| .eq (a := (.int (j : Nat), σ)) ?_ <| .eq (hat j (by omega)) <|
    q_cons <| .eq rfl <| q_cons <| .eq rfl <| q_cons <| .eq rfl <| q_cons <| .eq rfl <| q_nil <| hP _ _ (List.getElem_mem (by omega)) (List.getElem_mem (by omega))
  show some (AV.int (((f : Int) + 1 + (n0.fdiv 49).fmod 48).fmod 49), σ) = _
  rw [show ((f : Int) + 1 + (n0.fdiv 49).fmod 48).fmod 49 = (j : Int) from ej]
/-- the word of a symbol -/
def W2 (i o : Nat) (s : Int) : Str := (lk s (symsO o) (wordsI i)).getD ""
theorem symbol_all {i o : Nat} (h : i < 6) : ((wordsI i).map fun w => (lk w exK exV).getD ((lk w (namesIs i) (([0, (o : Int), 256, 257, 258, 259] : List Int).map AV.int)).getD (.int (-1)))) = (symsO o).map AV.int := by
  rcases six h with rfl | rfl | rfl | rfl | rfl | rfl <;> kernel_rfl
theorem sym_ix {i o : Nat} (hi : i < 6) (ho : OthOk o) {s : Int} (hs : s ∈ symsO o) : ∃ (k : Nat) (h : k < (symsO o).length) (h' : k < (wordsI i).length), s = (symsO o)[k] ∧ W2 i o s = (wordsI i)[k] ∧ lk s (symsO o) (wordsI i) = some ((wordsI i)[k]) := by
  obtain ⟨k, hk, rfl⟩ := List.getElem_of_mem hs
  have hk' : k < (wordsI i).length := by rw [wordsI_len hi]; rw [symsO_len] at hk; exact hk
  have e := lk_get (symsO o) (wordsI i) (symsO_nodup ho) k hk
  rw [List.getElem?_eq_getElem hk'] at e
  exact ⟨k, hk, hk', rfl, by rw [W2, e]; rfl, e⟩
theorem lk_map {K α β : Type} [DecidableEq K] (f : α → β) (s : K) : ∀ (ks : List K) (vs : List α), lk s ks (vs.map f) = (lk s ks vs).map f
  | [], _ => rfl
  | _ :: _, [] => rfl
  | x :: xs, v :: vs => by
    simp only [List.map_cons, lk]
    split
    · rfl
    · exact lk_map f s xs vs
theorem wok {i o : Nat} (hi : i < 6) (ho : OthOk o) : WOk (· ∈ symsO o) (W2 i o) (toldA i o) (writtenA i o) where
  sym := fun {n σ s} hs => by
    obtain ⟨k, h1, h2, rfl, h4, h5⟩ := sym_ix hi ho hs
    rw [h4]
    refine call_symbol.trans ?_
    have e := congrArg (fun l => l[k]?) (symbol_all (o := o) hi)
    simp only [List.getElem?_map, List.getElem?_eq_getElem h1, List.getElem?_eq_getElem h2, Option.map_some, Option.some.injEq] at e
    rw [e]
  wr := fun {σ s} hs _ => by
    obtain ⟨k, h1, h2, rfl, h4, h5⟩ := sym_ix hi ho hs
    show (some (lk _ (symsO o) ((wordsI i).map AV.str))).bind id = _
    rw [lk_map, h5, h4]
    rfl
end Mine
set_option maxRecDepth 100000
namespace Mine
open PySem PyProof.Rows
theorem Sat.get {α : Type} {x : Option α} {a : α} (h : Sat x fun r => r = a) : x = some a := by obtain ⟨b, e, rfl⟩ := h; exact e
theorem getD_mem' {b : List Int} {i : Nat} (h : i < b.length) : b.getD i 0 ∈ b := by simp [List.getD, List.getElem?_eq_getElem h]
theorem n5_at {n0 n1 n2 n3 n4 : Int} {i : Nat} (h : i < 4) : ∃ n : Int, ∀ σ, getA σ (n5 n0 n1 n2 n3 n4) (.int ((i : Int) + 1)) = some (.int n) := by
  have : i = 0 ∨ i = 1 ∨ i = 2 ∨ i = 3 := by omega
  rcases this with rfl | rfl | rfl | rfl
  · exact ⟨n1, fun σ => by kernel_rfl⟩
  · exact ⟨n2, fun σ => by kernel_rfl⟩
  · exact ⟨n3, fun σ => by kernel_rfl⟩
  · exact ⟨n4, fun σ => by kernel_rfl⟩
def forBody : Stmt → List Stmt
  | .For _ _ b _ _ => b
  | _ => []
theorem runM_append {c : Cfg} {p : Pos} {Φ : Fns} {L : Nat} {σ : Sto} {xs : List AV} {v : AV} (h : σ.get L = some (.list xs)) (hl : xs.length < 2 ^ 20) : runM c p Φ (.append L) [v] σ = some (.none, σ.upd L (.list (xs ++ [v]))) := by
  show (match σ.get L with
    | some (.list xs) => if xs.length < 2 ^ 20 then some (AV.none, σ.upd L (.list (xs ++ [v]))) else none
    | _ => none) = _
  rw [h]
  show (if xs.length < 2 ^ 20 then _ else none) = _
  rw [if_pos hl]
theorem resM_append {σ : Sto} {L : Nat} {xs : List AV} (h : σ.get L = some (.list xs)) : resM σ (.loc L) "append" = some (.append L) := by simp only [resM, h]; rfl
theorem rules_figs {Φ : Fns} {m : Fm} {σ : Sto} {n0 n1 n2 n3 n4 : Int} {i : Nat} (hi : i < 4) (h1 : m "numbers" = some (n5 n0 n1 n2 n3 n4)) (h2 : m "k" = some (.int (i : Nat))) {P : Fl × Fm × Sto → Prop}
    (hP : ∀ fs : List Nat, fs.length ≤ 2 → (∀ f ∈ fs, f < 6) → P (.next, m.set "figures" (.list (fs.map fun (j : Nat) => AV.int (j : Nat))), σ)) : Sat (ex cfgP Φ (stAt (forBody (lawSt 9)) 0) scL m σ) P := by
  obtain ⟨n, hn⟩ := n5_at (n0 := n0) (n1 := n1) (n2 := n2) (n3 := n3) (n4 := n4) hi
  obtain ⟨a, ha, ea⟩ := fmod_nat (n.fdiv 4) 6 (by decide)
  obtain ⟨b, hb, eb⟩ := fmod_nat (n.fdiv 24) 6 (by decide)
  obtain ⟨d, hd, ed⟩ := fmod_nat n 4 (by decide)
  obtain ⟨c, hc, ec⟩ : ∃ c : Nat, c ≤ 2 ∧ ∀ σ, getA σ (.list (([2, 1, 0, 2] : List Int).map AV.int)) (.int (d : Nat)) = some (.int (c : Nat)) := by
    have : d = 0 ∨ d = 1 ∨ d = 2 ∨ d = 3 := by omega
    rcases this with rfl | rfl | rfl | rfl
    · exact ⟨2, by decide, fun σ => by kernel_rfl⟩
    · exact ⟨1, by decide, fun σ => by kernel_rfl⟩
    · exact ⟨0, by decide, fun σ => by kernel_rfl⟩
    · exact ⟨2, by decide, fun σ => by kernel_rfl⟩
  refine x_assign rfl (by kernel_rfl) <| q_slice <| q_list (by decide) <| q_cons <| q_bin <| q_bin <| q_sub rfl <| q_name (Eq.trans (b := m "numbers") (by kernel_rfl) h1) <| q_bin <| q_name (Eq.trans (b := m "k") (by kernel_rfl) h2) <| .eq rfl <| .eq rfl <| .eq (hn _) <| .eq rfl <| .eq (a := (.int (n.fdiv 4), σ)) rfl <| .eq rfl <| .eq (a := (.int (a : Nat), σ)) ?_ <|
    q_cons <| q_bin <| q_bin <| q_sub rfl <| q_name (Eq.trans (b := m "numbers") (by kernel_rfl) h1) <| q_bin <| q_name (Eq.trans (b := m "k") (by kernel_rfl) h2) <| .eq rfl <| .eq rfl <| .eq (hn _) <| .eq rfl <| .eq (a := (.int (n.fdiv 24), σ)) rfl <| .eq rfl <| .eq (a := (.int (b : Nat), σ)) ?_ <|
    q_nil <| q_none <| q_some <| q_sub rfl <| .eq (a := (.list (([2, 1, 0, 2] : List Int).map AV.int), σ)) (by kernel_rfl) <| q_bin <| q_sub rfl <| q_name (Eq.trans (b := m "numbers") (by kernel_rfl) h1) <| q_bin <| q_name (Eq.trans (b := m "k") (by kernel_rfl) h2) <| .eq rfl <| .eq rfl <| .eq (hn _) <| .eq rfl <| .eq (a := (.int (d : Nat), σ)) ?_ <|
    .eq (ec _) <| .eq rfl <| .eq rfl <| .eq (a := (.list ((([a, b] : List Nat).take c).map fun (j : Nat) => AV.int (j : Nat)), σ)) ?_ <| hP _ (by simp; omega) (fun f hf => ?_)
  · show some (AV.int ((n.fdiv 4).fmod 6), σ) = _
    rw [show (n.fdiv 4).fmod 6 = (a : Int) from ea]
  · show some (AV.int ((n.fdiv 24).fmod 6), σ) = _
    rw [show (n.fdiv 24).fmod 6 = (b : Int) from eb]
  · show some (AV.int (n.fmod 4), σ) = _
    rw [show n.fmod 4 = (d : Int) from ed]
  · show some (mkL cfgP _ (cutL (([a, b] : List Nat).map fun (j : Nat) => AV.int (j : Nat)) none (some (c : Int))) σ) = _
    rw [cut_to, mkL_f (by kernel_rfl), List.map_take]
  · have := List.mem_of_mem_take hf
    simp only [List.mem_cons, List.not_mem_nil, or_false] at this
    omega
theorem rules_app {Φ : Fns} {m : Fm} {σ : Sto} {L i : Nat} {fs : List Nat} {sy : List Int} {rs : List AV} (hfs : fs.length ≤ 2) (hf6 : ∀ f ∈ fs, f < sy.length) (h1 : m "symbols" = some (.list (sy.map AV.int))) (h2 : m "k" = some (.int (i : Nat))) (h3 : m "figures" = some (.list (fs.map fun (j : Nat) => AV.int (j : Nat))))
    (h4 : m "rules" = some (.loc L)) (h5 : σ.get L = some (.list rs)) (h6 : rs.length < 1000) {P : Fl × Fm × Sto → Prop}
    (hP : P (.next, m, σ.upd L (.list (rs ++ [.list (((256 + (i : Int)) :: (fs.map (fun f => sy.getD f 0) ++ [0])).map AV.int)])))) : Sat (ex cfgP Φ (stAt (forBody (lawSt 9)) 1) scL m σ) P := by
  refine x_expr rfl <| q_meth (by decide) <| q_name (Eq.trans (b := m "rules") (by kernel_rfl) h4) <| .eq (resM_append h5) <| q_cons <| q_bin <| q_bin <| q_list (by decide) <| q_cons <| q_bin <| .eq rfl <| q_name (Eq.trans (b := m "k") (by kernel_rfl) h2) <| .eq rfl <| q_nil <|
    q_listcomp (by kernel_rfl) <| q_src rfl <| q_name (Eq.trans (b := m "figures") (by kernel_rfl) h3) ?_
  refine comp_map (xs := fs.map fun (j : Nat) => AV.int (j : Nat)) (fs.map fun f => AV.int (sy.getD f 0)) (fun v => by kernel_rfl) (by kernel_rfl) rfl (by simp; omega) (by simp) (fun k hk => ?_) ?_
  · have hk' : k < fs.length := by simpa using hk
    have hlt := hf6 _ (List.getElem_mem hk')
    simp only [List.getElem_map]
    generalize fs[k] = f at *
    refine Sat.get <| q_sub rfl <| q_name (Eq.trans (b := m "symbols") (by kernel_rfl) h1) <| q_name (v := .int (f : Nat)) (by kernel_rfl) <| .eq (getA_list (by rw [List.getElem?_map, List.getElem?_eq_getElem hlt]; rfl)) ?_
    simp [List.getD, List.getElem?_eq_getElem hlt]
  · refine .eq (a := (.list ((.int (256 + (i : Int))) :: fs.map fun f => AV.int (sy.getD f 0)), σ)) ?_ ?_
    · exact (add_lists (p := _) (xs := [.int (256 + (i : Int))]) (ys := fs.map fun f => AV.int (sy.getD f 0)) (by kernel_rfl) (by simp; omega))
    · refine q_list (by decide) <| q_cons <| .eq rfl <| q_nil <| .eq (add_lists (by kernel_rfl) (by simp; omega)) <| q_nil <| .eq (runM_append h5 (by omega)) ?_
      have : AV.list ((AV.int (256 + (i : Int)) :: fs.map fun f => AV.int (sy.getD f 0)) ++ [AV.int 0]) = .list (((256 + (i : Int)) :: (fs.map (fun f => sy.getD f 0) ++ [0])).map AV.int) := by simp
      rw [this]
      exact hP
/-- the rules -/
theorem law_rules {Φ : Fns} {m : Fm} {σ : Sto} {n0 n1 n2 n3 n4 : Int} {L : Nat} {sy : List Int} (hsy : sy.length = 6) (h1 : m "numbers" = some (n5 n0 n1 n2 n3 n4)) (h2 : m "symbols" = some (.list (sy.map AV.int))) (h3 : m "rules" = some (.loc L)) (h4 : σ.get L = some (.list [])) {P : Fl × Fm × Sto → Prop}
    (hP : ∀ m' σ' br, (∀ x : Str, x ≠ "k" → x ≠ "figures" → m' x = m x) → (∀ k, k < 4 → (br k).length ≤ 2 ∧ ∀ s ∈ br k, s ∈ sy) → σ'.get L = some (.list ((List.range 4).map (ruleA br))) → Keep L σ σ' → P (.next, m', σ')) : Sat (ex cfgP Φ (lawSt 9) scL m σ) P := by
  refine x_for (xs := (List.range 4).map fun (i : Nat) => AV.int (i : Nat)) (I := fun i s => (∀ x : Str, x ≠ "k" → x ≠ "figures" → s.1 x = m x) ∧ Keep L σ s.2 ∧ ∃ br : Nat → List Int, (∀ k, k < i → (br k).length ≤ 2 ∧ ∀ s ∈ br k, s ∈ sy) ∧ s.2.get L = some (.list ((List.range i).map (ruleA br)))) <|
    .eq (a := (.range 0 4, σ)) (by kernel_rfl) ⟨by kernel_rfl, ⟨fun _ _ _ => rfl, Keep.refl, fun _ => [], fun k hk => by omega, h4⟩, fun i s h => by kernel_rfl, fun s h => ?_, fun i s hi h => ?_⟩
  · obtain ⟨m', σ'⟩ := s
    obtain ⟨f1, k1, br, b1, g1⟩ := h
    exact hP m' σ' br f1 b1 g1 k1
  · obtain ⟨m2, σ2⟩ := s
    obtain ⟨f1, k1, br, b1, g1⟩ := h
    simp only at f1 k1 g1
    have hi4 : i < 4 := by simpa using hi
    have ex0 : ((List.range 4).map fun (i : Nat) => AV.int (i : Nat))[i]'hi = .int (i : Nat) := by simp
    rw [ex0]
    have e1 : m2 "numbers" = some (n5 n0 n1 n2 n3 n4) := (f1 _ (by decide) (by decide)).trans h1
    have e2 : m2 "symbols" = some (.list (sy.map AV.int)) := (f1 _ (by decide) (by decide)).trans h2
    have e3 : m2 "rules" = some (.loc L) := (f1 _ (by decide) (by decide)).trans h3
    refine .eq (a := m2.set "k" (.int (i : Nat))) (by kernel_rfl) ?_
    refine x_cons (by kernel_rfl) <| rules_figs hi4 (Eq.trans (b := m2 "numbers") (by kernel_rfl) e1) (by kernel_rfl) fun fs c1 c2 => ?_
    refine x_cons (by kernel_rfl) <| rules_app (L := L) (i := i) c1 (fun f hf => by rw [hsy]; exact c2 f hf) (Eq.trans (b := m2 "symbols") (by kernel_rfl) e2) (by kernel_rfl) (by kernel_rfl) (Eq.trans (b := m2 "rules") (by kernel_rfl) e3) g1 (by simp; omega) ?_
    refine x_nil ⟨fun x hx hy => ?_, k1.trans (Keep.upd (Nat.le_refl _)), fun k => if k = i then fs.map (fun f => sy.getD f 0) else br k, fun k hk => ?_, ?_⟩
    · show ((m2.set "k" _).set "figures" _) x = _
      rw [Fm.set, if_neg hy, Fm.set, if_neg hx]
      exact f1 x hx hy
    · by_cases hki : k = i
      · simp only [if_pos hki, List.length_map]
        refine ⟨c1, fun s hs => ?_⟩
        obtain ⟨f, hf, rfl⟩ := List.mem_map.mp hs
        exact getD_mem' (by rw [hsy]; exact c2 f hf)
      · simp only [if_neg hki]
        exact b1 k (by omega)
    · rw [upd_at, List.range_succ, List.map_append]
      congr 2
      congr 1
      · refine List.map_congr_left fun k hk => ?_
        have := List.mem_range.mp hk
        simp only [ruleA, ruleZ]
        rw [if_neg (by omega)]
      · simp only [List.map_cons, List.map_nil, ruleA, ruleZ, if_pos]
end Mine
set_option maxRecDepth 100000
namespace Mine
open PySem PyProof.Rows
theorem cut_map {α β : Type} (f : α → β) (xs : List α) (lo hi : Option Int) : cutL (xs.map f) lo hi = (cutL xs lo hi).map f := by simp [cutL, cut, List.map_take, List.map_drop]
def qOf (x : Int) : Nat × Nat := ((x.fmod 4).toNat, ((x.fdiv 4).fmod 4).toNat)
theorem qOf_lt (x : Int) : (qOf x).1 < 4 ∧ (qOf x).2 < 4 := by
  obtain ⟨a, ha, ea⟩ := fmod_nat x 4 (by decide)
  obtain ⟨b, hb, eb⟩ := fmod_nat (x.fdiv 4) 4 (by decide)
  have ea : x.fmod 4 = (a : Int) := ea
  have eb : (x.fdiv 4).fmod 4 = (b : Int) := eb
  simp only [qOf, ea, eb]
  omega
theorem qA_of (x : Int) : qA (qOf x) = .tuple [.int (256 + x.fmod 4), .int (256 + (x.fdiv 4).fmod 4)] := by
  obtain ⟨a, ha, ea⟩ := fmod_nat x 4 (by decide)
  obtain ⟨b, hb, eb⟩ := fmod_nat (x.fdiv 4) 4 (by decide)
  have ea : x.fmod 4 = (a : Int) := ea
  have eb : (x.fdiv 4).fmod 4 = (b : Int) := eb
  simp only [qOf, qA, ea, eb, Int.toNat_natCast]
theorem law_quest {Φ : Fns} {m : Fm} {σ : Sto} {zs : List Int} (h1 : m "script" = some (.list (zs.map AV.int))) (hlen : zs.length ≤ 63) {P : Fl × Fm × Sto → Prop}
    (hP : ∀ qs : List (Nat × Nat), qs.length ≤ 9 → (∀ q ∈ qs, q.1 < 4 ∧ q.2 < 4) → P (.next, m.set "questions" (.list (qs.map qA)), σ)) : Sat (ex cfgP Φ (lawSt 10) scL m σ) P := by
  refine x_assign rfl (by kernel_rfl) <| q_listcomp (by kernel_rfl) <| q_src rfl ?_
  refine Sat.mono (P := fun v => ∃ L : List Int, L.length ≤ 9 ∧ v = (.list (L.map AV.int), σ)) ?_ fun v hv => ?_
  · refine q_if <| t_cmp <| q_call rfl (g := .bi "len") (by kernel_rfl) <| q_cons <| q_name (Eq.trans (b := m "script") (by kernel_rfl) h1) <| q_nil <| .eq (a := (.int zs.length, σ)) ?_ <| .eq rfl <| .eq rfl ?_
    · show some (AV.int (zs.map AV.int).length, σ) = _
      rw [List.length_map]
    · split
      · refine q_slice <| q_name (Eq.trans (b := m "script") (by kernel_rfl) h1) <| q_some <| .eq rfl <| q_some <| .eq rfl <| .eq rfl <| .eq rfl <| .eq (a := (.list ((cutL zs (some 5) (some 9)).map AV.int), σ)) ?_ ⟨_, ?_, rfl⟩
        · show some (mkL cfgP _ (cutL (zs.map AV.int) (some 5) (some 9)) σ) = _
          rw [mkL_f (by kernel_rfl), cut_map]
        · have e1 : ¬ ((5 : Int) < 0) := by decide
          have e2 : ¬ ((9 : Int) < 0) := by decide
          simp only [cutL, cut, List.length_drop, List.length_take, if_neg e1, if_neg e2]
          have : (9 : Int).toNat = 9 := rfl
          omega
      · exact .eq (a := (.list (([4, 12, 9] : List Int).map AV.int), σ)) (by kernel_rfl) ⟨_, by decide, rfl⟩
  · obtain ⟨L, hL, rfl⟩ := hv
    refine comp_map (xs := L.map AV.int) ((L.map qOf).map qA) (fun v => by kernel_rfl) (by kernel_rfl) rfl (by simp; omega) (by simp) (fun k hk => ?_) (hP (L.map qOf) (by simpa using hL) fun q hq => ?_)
    · simp only [List.getElem_map]
      generalize L[k]'(by simpa using hk) = x
      rw [qA_of]
      kernel_rfl
    · obtain ⟨x, _, rfl⟩ := List.mem_map.mp hq
      exact qOf_lt x
section
variable {c : Cfg} {Φ : Fns} {csc : Scope} {m : Fm} {σ : Sto} {p p' q q' : Pos} {x y : Str} {elt : Expr} {v : AV} {xs : List AV}
theorem comp_acc (vs0 f : List AV) (ks : Keys) (hx : ∀ v, setv csc m x v = some (m.set x v)) (hfr : (m x).isNone = true) (hv : items? σ v = some xs) (hlen : vs0.length + xs.length ≤ 1000) (hl : f.length = xs.length)
    (he : ∀ i (h : i < xs.length), ev c Φ elt csc (m.set x xs[i]) σ = some (f[i], σ)) {P : Acc × Sto → Prop} (hP : P (⟨ks, vs0 ++ f⟩, σ)) : Sat (compA csc (.val v) (.Name x p) m (trs c Φ [] csc) (gens c Φ (emitL (ev c Φ elt csc)) [] csc) ⟨ks, vs0⟩ σ) P := by
  refine compA_inv (xs := xs) (I := fun i b => b = (⟨ks, vs0 ++ f.take i⟩, σ)) ⟨rfl, hfr⟩ (by simp) (fun i b h => by rw [h]; exact hv) (fun b h => ?_) (fun i b hi h => ?_)
  · rw [h, ← hl, List.take_length]; exact hP
  · subst h
    refine .eq (a := m.set x xs[i]) (by show setv csc m x xs[i] = _; exact hx _) (t_trs0 ?_)
    rw [if_pos rfl]
    refine q_gens0 (q_emitL (.eq (he i hi) ⟨?_, ?_⟩))
    · simp; omega
    · rw [take_snoc (l := f) (by omega), List.append_assoc]
theorem comp_flat (rows : List (List AV)) (hx : ∀ v, setv csc m x v = some (m.set x v)) (hy : ∀ m v, setv csc m y v = some (m.set y v)) (hfr : (m x).isNone = true) (hfr' : ∀ v, ((m.set x v) y).isNone = true) (hlx : ∀ v, look c csc (m.set x v) x = some v) (hly : ∀ m v, look c csc (Fm.set m y v) y = some v)
    (hv : items? σ v = some xs) (hl : rows.length = xs.length) (hi : ∀ i (h : i < xs.length), items? σ xs[i] = some (rows[i])) (hlen : rows.flatten.length ≤ 1000) {P : Acc × Sto → Prop} (hP : P (⟨.ki [], rows.flatten⟩, σ)) :
    Sat (compA csc (.val v) (.Name x p) m (trs c Φ [] csc) (gens c Φ (emitL (ev c Φ (.Name y q) csc)) [⟨.Name y p', .Name x q', [], 0⟩] csc) ⟨.ki [], []⟩ σ) P := by
  have hpre : ∀ i (h : i < rows.length), (rows.take (i + 1)).flatten = (rows.take i).flatten ++ rows[i] := fun i h => by rw [take_snoc h, List.flatten_append]; simp only [List.flatten_cons, List.flatten_nil, List.append_nil]
  have hle : ∀ i, (rows.take i).flatten.length ≤ rows.flatten.length := fun i => by
    have : rows.flatten = (rows.take i).flatten ++ (rows.drop i).flatten := by rw [← List.flatten_append, List.take_append_drop]
    rw [this, List.length_append]; omega
  refine compA_inv (xs := xs) (I := fun i b => b = (⟨.ki [], (rows.take i).flatten⟩, σ)) ⟨rfl, hfr⟩ (by simp) (fun i b h => by rw [h]; exact hv) (fun b h => ?_) (fun i b hi' h => ?_)
  · rw [h, ← hl, List.take_length]; exact hP
  · subst h
    refine .eq (a := m.set x xs[i]) (by show setv csc m x xs[i] = _; exact hx _) (t_trs0 ?_)
    rw [if_pos rfl]
    have h1 := hle (i + 1)
    rw [hpre i (by omega), List.length_append] at h1
    refine q_gens (.eq (a := (xs[i], σ)) (by simp [ev, hlx]) (comp_acc (elt := .Name y q) (xs := rows[i]'(by omega)) ((rows.take i).flatten) (rows[i]'(by omega)) (.ki []) (hy _) (hfr' _) (hi i hi') (by omega) rfl (fun j hj => by simp [ev, hly]) ?_))
    rw [hpre i (by omega)]
end
end Mine
set_option maxRecDepth 100000
namespace Mine
open PySem PyProof.Rows
theorem words_mem {i : Nat} (hi : i < 6) : ∀ w ∈ wordsI i, w ∈ words56 := fun w hw => by
  have hn : ∀ w ∈ namesI i, w ∈ names6 := by rcases six hi with rfl | rfl | rfl | rfl | rfl | rfl <;> decide +kernel
  unfold wordsI at hw
  unfold words56
  rcases List.mem_append.mp hw with h | h
  · exact List.mem_append_left _ h
  · exact List.mem_append_right _ (hn w h)
theorem word_ne {i : Nat} (hi : i < 6) : ((wordsI i).drop 1).all (fun w => !w.cps.isEmpty) = true := by rcases six hi with rfl | rfl | rfl | rfl | rfl | rfl <;> decide +kernel
theorem W2_zero {i o : Nat} : W2 i o 0 = ⟨#[]⟩ := by kernel_rfl
theorem case_ok {i o : Nat} (hi : i < 6) (ho : OthOk o) {s : Int} (hs : s ∈ symsO o) {mn : Nat} (hm : mn < 3) (h0 : s = 0 → mn = 0) {b : Nat} (hb : b ∈ blank4) : (W2 i o s, mn, b) ∈ cases672 := by
  obtain ⟨k, h1, h2, e, h4, h5⟩ := sym_ix hi ho hs
  rw [h4]
  unfold cases672
  refine List.mem_flatMap.mpr ⟨_, words_mem hi _ (List.getElem_mem h2), List.mem_flatMap.mpr ⟨mn, ?_, List.mem_map.mpr ⟨b, hb, rfl⟩⟩⟩
  by_cases hk : k = 0
  · subst hk
    have : mn = 0 := h0 e
    subst this
    split <;> simp
  · have := List.all_eq_true.mp (word_ne hi) ((wordsI i)[k]) (by
      rw [List.mem_iff_getElem]
      exact ⟨k - 1, by simp; omega, by simp only [List.getElem_drop]; congr 1; omega⟩)
    rw [if_neg (by simpa using this)]
    have : mn = 0 ∨ mn = 1 ∨ mn = 2 := by omega
    rcases this with rfl | rfl | rfl <;> simp
theorem written_one {n : Nat} {σ : Sto} {x : Str × Nat × Nat} (hx : x ∈ cases672) : F (n + 1) "_law_written" [.str x.1, .int x.2.1, .str ⟨#[x.2.2]⟩] σ = some (.str ⟨(enc x).toArray⟩, σ.upto σ.nx) := List.map_inj_left.mp written_all x hx
def encA (c : Str × Nat × Nat) : AV := .str ⟨(enc c).toArray⟩
def rsyms (br : Nat → List Int) : List Int := (List.range 4).flatMap (ruleZ br)
theorem texts_turn {n : Nat} {m : Fm} {σ : Sto} {n0 n1 n2 n3 n4 : Int} {i o L : Nat} {s : Int} {cs : List (Str × Nat × Nat)} (hi : i < 6) (ho : OthOk o) (hs : s ∈ symsO o) (h1 : m "numbers" = some (n5 n0 n1 n2 n3 n4)) (h2 : m "written" = some (writtenA i o)) (h3 : m "texts" = some (.loc L)) (h4 : m "symbol" = some (.int s)) (h5 : σ.get L = some (.list (cs.map encA))) (h6 : cs.length < 1000) (hL : L < σ.nx)
    {P : Fl × Fm × Sto → Prop} (hP : ∀ m' σ' c, (∀ x : Str, x ≠ "manner" → m' x = m x) → c ∈ cases672 → c.1 = W2 i o s → σ'.get L = some (.list ((cs ++ [c]).map encA)) → Keep L σ σ' → P (.next, m', σ')) : Sat (exs cfgP (F (n + 1)) (forBody (lawSt 12)) scL m σ) P := by
  have hlen : ∀ {c : Cfg} {Φ : Fns} {p : Pos}, callV c Φ p (.bi "len") [.loc L] σ = some (.int cs.length, σ) := fun {c Φ p} => by
    show ((lst? σ (.loc L)).map fun xs => (AV.int xs.length, σ)) = _
    simp only [lst?, h5, Option.map_some, List.length_map]
  have hs0 : 0 ≤ s := by
    rcases syms_mem.mp hs with h | h | h
    · omega
    · rcases kinds_mem.mp h with h | h
      · omega
      · omega
    · omega
  refine x_cons (by kernel_rfl) <| x_assign rfl (by kernel_rfl) <| Sat.mono (P := fun r => ∃ mn : Nat, mn < 3 ∧ (s = 0 → mn = 0) ∧ r = (.int (mn : Nat), σ)) ?_ fun r hr => ?_
  · refine q_if <| t_cmp <| q_name (Eq.trans (b := m "symbol") (by kernel_rfl) h4) <| .eq rfl <| .eq rfl ?_
    by_cases h : 0 < s
    · rw [if_pos (by simpa using h)]
      obtain ⟨k, hk, ek⟩ := fmod_nat (n0.fdiv 14112 + (cs.length : Nat)) 3 (by decide)
      refine q_bin <| q_bin <| q_bin <| q_sub rfl <| q_name (Eq.trans (b := m "numbers") (by kernel_rfl) h1) <| .eq rfl <| .eq (a := .int n0) rfl <| .eq rfl <| .eq (a := (.int (n0.fdiv 14112), σ)) rfl <| q_call rfl (g := .bi "len") (by kernel_rfl) <| q_cons <| q_name (Eq.trans (b := m "texts") (by kernel_rfl) h3) <| q_nil <|
        .eq hlen <| .eq rfl <| .eq rfl <| .eq (a := (.int (k : Nat), σ)) ?_ ⟨k, hk, fun e => by omega, rfl⟩
      show some (AV.int ((n0.fdiv 14112 + (cs.length : Nat)).fmod 3), σ) = _
      rw [show (n0.fdiv 14112 + (cs.length : Nat)).fmod 3 = (k : Int) from ek]
    · rw [if_neg (by simpa using h)]
      exact .eq rfl ⟨0, by decide, fun _ => rfl, rfl⟩
  · obtain ⟨mn, hm1, hm2, rfl⟩ := hr
    obtain ⟨j, hj, ej⟩ := fmod_nat (cs.length : Nat) 4 (by decide)
    obtain ⟨b, hb, eb⟩ : ∃ b, b ∈ blank4 ∧ ∀ σ, getA σ (.str ⟨#[10, 9, 13, 32]⟩) (.int (j : Nat)) = some (.str ⟨#[b]⟩) := by
      have : j = 0 ∨ j = 1 ∨ j = 2 ∨ j = 3 := by omega
      rcases this with rfl | rfl | rfl | rfl
      · exact ⟨10, by decide, fun σ => by kernel_rfl⟩
      · exact ⟨9, by decide, fun σ => by kernel_rfl⟩
      · exact ⟨13, by decide, fun σ => by kernel_rfl⟩
      · exact ⟨32, by decide, fun σ => by kernel_rfl⟩
    have hc := case_ok hi ho hs hm1 hm2 hb
    have hwr : ∀ σ, getA σ (writtenA i o) (.int s) = some (.str (W2 i o s)) := fun σ => by
      by_cases h0 : s = 0
      · subst h0; kernel_rfl
      · exact (wok hi ho).wr hs h0
    clear hm2 hs
    generalize W2 i o s = w at *
    generalize writtenA i o = wr at *
    have hw1 := fun (σ : Sto) => written_one (n := n) (σ := σ) hc
    have k1 : Keep σ.nx σ (σ.upto σ.nx) := Keep.upto (Nat.le_refl _)
    refine x_cons (by kernel_rfl) <| x_expr rfl <| q_meth (by decide) <| q_name (Eq.trans (b := m "texts") (by kernel_rfl) h3) <| .eq (resM_append h5) <| q_cons <| q_call rfl (g := .glob "_law_written") (by kernel_rfl) <| q_cons <| q_sub rfl <| q_name (Eq.trans (b := m "written") (by kernel_rfl) h2) <|
      q_name (Eq.trans (b := m "symbol") (by kernel_rfl) h4) <| .eq (hwr _) <| q_cons <| q_name (v := .int (mn : Nat)) (by kernel_rfl) <| q_cons <| q_sub rfl <| .eq (a := (.str ⟨#[10, 9, 13, 32]⟩, σ)) (by kernel_rfl) <| q_bin <| q_call rfl (g := .bi "len") (by kernel_rfl) <| q_cons <|
      q_name (Eq.trans (b := m "texts") (by kernel_rfl) h3) <| q_nil <| .eq hlen <| .eq rfl <| .eq (a := (.int (j : Nat), σ)) ?_ <| .eq (eb _) <| q_nil <| .eq (hw1 _) <| q_nil <| .eq (runM_append (k1.get hL h5) (by simp; omega)) <| x_nil <| hP _ _ _ (fun x hx => ?_) hc rfl ?_ ((k1.less (Nat.le_of_lt hL)).trans (Keep.upd (Nat.le_refl _)))
    · show some (AV.int ((cs.length : Int).fmod 4), σ) = _
      rw [show (cs.length : Int).fmod 4 = (j : Int) from ej]
    · show (m.set "manner" _) x = _
      rw [Fm.set, if_neg hx]
    · rw [List.map_append]; exact upd_at
end Mine
set_option maxRecDepth 100000
namespace Mine
open PySem PyProof.Rows
def rulesA (br : Nat → List Int) : AV := .list ((List.range 4).map (ruleA br))
theorem qsyms_len (qs : List (Nat × Nat)) : (qsyms qs).length = 2 * qs.length := by
  induction qs with
  | nil => rfl
  | cons q qs ih => simp [qsyms] at ih ⊢; omega
theorem rsyms_len {br : Nat → List Int} (h : ∀ k, k < 4 → (br k).length ≤ 2) : (rsyms br).length ≤ 16 := by
  have h0 := h 0 (by decide)
  have h1 := h 1 (by decide)
  have h2 := h 2 (by decide)
  have h3 := h 3 (by decide)
  simp [rsyms, ruleZ, List.range_succ]
  omega
/-- all words are written -/
theorem law_texts {n : Nat} {m : Fm} {σ : Sto} {n0 n1 n2 n3 n4 : Int} {i o L : Nat} {br : Nat → List Int} {qs : List (Nat × Nat)} (hi : i < 6) (ho : OthOk o) (hb2 : ∀ k, k < 4 → (br k).length ≤ 2) (hq9 : qs.length ≤ 9) (hsy : ∀ s ∈ rsyms br ++ qsyms qs, s ∈ symsO o) (h1 : m "numbers" = some (n5 n0 n1 n2 n3 n4)) (h2 : m "written" = some (writtenA i o)) (h3 : m "texts" = some (.loc L))
    (h4 : m "rules" = some (rulesA br)) (h5 : m "questions" = some (.list (qs.map qA))) (h6 : σ.get L = some (.list [])) (hL : L < σ.nx)
    {P : Fl × Fm × Sto → Prop} (hP : ∀ m' σ' (cs : List (Str × Nat × Nat)), (∀ x : Str, x ≠ "manner" → x ≠ "symbol" → m' x = m x) → (∀ c ∈ cs, c ∈ cases672) → cs.map (·.1) = (rsyms br ++ qsyms qs).map (W2 i o) → σ'.get L = some (.list (cs.map encA)) → Keep L σ σ' → P (.next, m', σ')) : Sat (ex cfgP (F (n + 1)) (lawSt 12) scL m σ) P := by
  have hr16 := rsyms_len hb2
  have hq18 := qsyms_len qs
  refine x_for (xs := (rsyms br ++ qsyms qs).map AV.int) (I := fun k s => (∀ x : Str, x ≠ "manner" → x ≠ "symbol" → s.1 x = m x) ∧ Keep L σ s.2 ∧ ∃ cs : List (Str × Nat × Nat), (∀ c ∈ cs, c ∈ cases672) ∧ cs.map (·.1) = ((rsyms br ++ qsyms qs).take k).map (W2 i o) ∧ s.2.get L = some (.list (cs.map encA))) ?_
  refine q_bin <| q_listcomp (by kernel_rfl) <| q_src rfl <| q_name (Eq.trans (b := m "rules") (by kernel_rfl) h4) <| comp_flat (xs := (List.range 4).map (ruleA br)) ((List.range 4).map fun k => (ruleZ br k).map AV.int) (fun v => by kernel_rfl) (fun m v => by kernel_rfl) (by kernel_rfl) (fun v => by kernel_rfl) (fun v => by kernel_rfl) (fun m v => by kernel_rfl) rfl (by simp) (fun j hj => by simp [ruleA, items?]) ?_ ?_
  · have : ((List.range 4).map fun k => (ruleZ br k).map AV.int).flatten.length = (rsyms br).length := by simp [rsyms, List.flatMap, List.range_succ]
    omega
  refine q_listcomp (by kernel_rfl) <| q_src rfl <| q_name (Eq.trans (b := m "questions") (by kernel_rfl) h5) <| comp_flat (xs := qs.map qA) (qs.map fun q => [AV.int (256 + (q.1 : Int)), AV.int (256 + (q.2 : Int))]) (fun v => by kernel_rfl) (fun m v => by kernel_rfl) (by kernel_rfl) (fun v => by kernel_rfl) (fun v => by kernel_rfl) (fun m v => by kernel_rfl) rfl (by simp) (fun j hj => by simp [qA, items?]) ?_ ?_
  · have : (qs.map fun q => [AV.int (256 + (q.1 : Int)), AV.int (256 + (q.2 : Int))]).flatten = (qsyms qs).map AV.int := by simp [qsyms, List.flatMap, List.map_flatten, Function.comp_def]
    rw [this, List.length_map]; omega
  have e1 : ((List.range 4).map fun k => (ruleZ br k).map AV.int).flatten = (rsyms br).map AV.int := by simp [rsyms, List.flatMap, List.map_flatten, Function.comp_def]
  have e2 : (qs.map fun q => [AV.int (256 + (q.1 : Int)), AV.int (256 + (q.2 : Int))]).flatten = (qsyms qs).map AV.int := by simp [qsyms, List.flatMap, List.map_flatten, Function.comp_def]
  simp only
  rw [e1, e2, mkL_f (by kernel_rfl), mkL_f (by kernel_rfl)]
  refine .eq (add_lists (by kernel_rfl) (by simp; omega)) ⟨?_, ⟨by simp, Keep.refl, [], by simp, by simp, h6⟩, fun k s h => ?_, fun s h => ?_, fun k s hk h => ?_⟩
  · rw [List.map_append]; rfl
  · show some _ = _
    rw [List.map_append]
  · obtain ⟨m', σ'⟩ := s
    obtain ⟨f1, k1, cs, c1, c2, g1⟩ := h
    rw [List.length_map, List.take_length] at c2
    exact hP m' σ' cs f1 c1 c2 g1 k1
  · obtain ⟨m2, σ2⟩ := s
    obtain ⟨f1, k1, cs, c1, c2, g1⟩ := h
    simp only at f1 k1 g1
    have hk' : k < (rsyms br ++ qsyms qs).length := by simpa using hk
    have hs := hsy _ (List.getElem_mem hk')
    have htk := take_snoc hk'
    have hcl : cs.length < 1000 := by
      have := congrArg List.length c2
      simp at this
      omega
    rw [List.getElem_map]
    generalize (rsyms br ++ qsyms qs)[k] = s at *
    refine .eq (a := m2.set "symbol" (.int s)) (by kernel_rfl) ?_
    have e3 : (m2.set "symbol" (.int s)) "numbers" = some (n5 n0 n1 n2 n3 n4) := by rw [Fm.set, if_neg (by decide)]; exact (f1 _ (by decide) (by decide)).trans h1
    have e4 : (m2.set "symbol" (.int s)) "written" = some (writtenA i o) := by rw [Fm.set, if_neg (by decide)]; exact (f1 _ (by decide) (by decide)).trans h2
    have e5 : (m2.set "symbol" (.int s)) "texts" = some (.loc L) := by rw [Fm.set, if_neg (by decide)]; exact (f1 _ (by decide) (by decide)).trans h3
    have e6 : (m2.set "symbol" (.int s)) "symbol" = some (.int s) := by rw [Fm.set, if_pos rfl]
    refine texts_turn (n := n) hi ho hs e3 e4 e5 e6 g1 hcl (Nat.lt_of_lt_of_le hL k1.2) fun m3 σ3 c f3 c3 c4 g3 k3 => ⟨fun x hx hy => ?_, k1.trans k3, cs ++ [c], fun d hd => ?_, ?_, g3⟩
    · show m3 x = m x
      rw [f3 x hx, Fm.set, if_neg hy]; exact f1 x hx hy
    · rcases List.mem_append.mp hd with h | h
      · exact c1 d h
      · rw [List.mem_singleton.mp h]; exact c3
    · rw [htk, List.map_append, List.map_append, c2]
      simp [c4]
theorem joinA_enc : ∀ cs : List (Str × Nat × Nat), joinA (cs.map encA) = some (cs.flatMap enc)
  | [] => rfl
  | c :: cs => by simp [joinA, encA, joinA_enc cs]
theorem enc_len : ∀ c ∈ cases672, (enc c).length ≤ 30 := by
  have : cases672.all (fun c => decide ((enc c).length ≤ 30)) = true := by kernel_rfl
  exact fun c hc => of_decide_eq_true (List.all_eq_true.mp this c hc)
theorem encs_len : ∀ {cs : List (Str × Nat × Nat)}, (∀ c ∈ cs, c ∈ cases672) → (cs.flatMap enc).length ≤ 30 * cs.length
  | [], _ => by simp
  | c :: cs, h => by
    have h1 := enc_len c (h c List.mem_cons_self)
    have h2 := encs_len (cs := cs) fun d hd => h d (List.mem_cons_of_mem _ hd)
    simp only [List.flatMap_cons, List.length_append, List.length_cons]
    omega
theorem cut_last {α : Type} (xs : List α) : cutL xs none (some (-1)) = xs.dropLast := by
  have h : ((-1 : Int) < 0) := by decide
  simp only [cutL, cut, if_pos h, List.drop_zero, List.dropLast_eq_take]
  congr 1
  omega
theorem law_text {Φ : Fns} {m : Fm} {σ : Sto} {cs : List (Str × Nat × Nat)} (h1 : m "texts" = some (.list (cs.map encA))) (hc : ∀ c ∈ cs, c ∈ cases672) (hl : cs.length ≤ 100) {P : Fl × Fm × Sto → Prop} (hP : P (.next, m.set "text" (.str ⟨(cs.flatMap enc).dropLast.toArray⟩), σ)) : Sat (ex cfgP Φ (lawSt 13) scL m σ) P := by
  have h3 := encs_len hc
  refine x_assign rfl (by kernel_rfl) <| q_slice <| q_meth (by decide) <| .eq (a := (.str ⟨#[]⟩, σ)) (by kernel_rfl) <| .eq (a := .join ⟨#[]⟩) (by kernel_rfl) <| q_cons <| q_name (Eq.trans (b := m "texts") (by kernel_rfl) h1) <| q_nil <| .eq (a := (.str ⟨(cs.flatMap enc).toArray⟩, σ)) ?_ <|
    q_none <| q_some <| .eq (a := (.int (-1), σ)) (by kernel_rfl) <| .eq rfl <| .eq rfl <| .eq (a := (.str ⟨(cs.flatMap enc).dropLast.toArray⟩, σ)) ?_ hP
  · show ((joinA (cs.map encA)).bind fun r => if (⟨#[]⟩ : Str).length = 0 ∧ r.length ≤ 2 ^ 20 then some (AV.str ⟨r.toArray⟩, σ) else none) = _
    rw [joinA_enc, Option.bind_some, if_pos ⟨rfl, by omega⟩]
  · show (if (cs.flatMap enc).toArray.size ≤ 2 ^ 20 then some (AV.str ⟨(cutL (cs.flatMap enc).toArray.toList none (some (-1))).toArray⟩, σ) else none) = _
    rw [if_pos (by simp only [List.size_toArray]; omega), cut_last]
end Mine
set_option maxRecDepth 100000
namespace Mine
open PySem PyProof.Rows
theorem nodup_sub {α : Type} [DecidableEq α] : ∀ (l k : List α), l.Nodup → (∀ x ∈ l, x ∈ k) → l.length ≤ k.length
  | [], _, _, _ => Nat.zero_le _
  | x :: l, k, hn, hs => by
    have hn' := List.nodup_cons.mp hn
    have hx := hs x List.mem_cons_self
    have := nodup_sub l (k.erase x) hn'.2 fun y hy => (List.mem_erase_of_ne (fun e => hn'.1 (by rw [← e]; exact hy))).mpr (hs y (List.mem_cons_of_mem _ hy))
    rw [List.length_erase_of_mem hx] at this
    have := List.length_pos_of_mem hx
    simp only [List.length_cons]
    omega
def pairs16 : List Int := (List.range 4).flatMap fun (x : Nat) => (List.range 4).map fun (y : Nat) => 1000 * (256 + (x : Int)) + (256 + (y : Int))
theorem J02.seen_len {br : Nat → List Int} {a b : Int} {Q : List Trip} {f : Option (List Nat)} {seen : List Int} (J : J02 br a b Q f seen) : seen.length ≤ 16 := by
  have := nodup_sub seen pairs16 J.nodup fun z hz => by
    obtain ⟨x, y, r, h1, h2, h3, _⟩ := J.seenAt z hz
    rw [h3]
    exact List.mem_flatMap.mpr ⟨x, List.mem_range.mpr h1, List.mem_map.mpr ⟨y, List.mem_range.mpr h2, rfl⟩⟩
  exact this
/-- what holds while a question is looked at -/
def JA (br : Nat → List Int) (o : Nat) (q : Nat × Nat) (Q : List Trip) (f : Option (List Nat)) (s : List Int) : Prop :=
  J02 br (256 + (q.1 : Int)) (256 + (q.2 : Int)) Q f s ∧ (∀ e ∈ Q, e.2.1 ∈ symsO o ∧ e.2.2 ∈ symsO o) ∧ Q.length ≤ 1 + 2 * s.length
def muA (Q : List Trip) (s : List Int) : Nat := 3 * (16 - s.length) + Q.length
theorem name_sym {o j : Nat} (h : j < 4) : 256 + (j : Int) ∈ symsO o := syms_mem.mpr (.inr (.inr (by omega)))
theorem JA.start {br : Nat → List Int} {o : Nat} {q : Nat × Nat} (hq : q.1 < 4 ∧ q.2 < 4) : JA br o q [([], 256 + (q.1 : Int), 256 + (q.2 : Int))] none [] :=
  ⟨.start (.inr ⟨_, hq.1, rfl⟩) (.inr ⟨_, hq.2, rfl⟩), fun e he => by rw [List.mem_singleton.mp he]; exact ⟨name_sym hq.1, name_sym hq.2⟩, by simp⟩
theorem flat_len {W : Int → Str} : ∀ Q : List Trip, (flat W Q).length = 3 * Q.length
  | [] => rfl
  | t :: Q => by
    have := flat_len (W := W) Q
    simp only [flat, List.flatMap_cons, List.length_append, tw, List.length_cons, List.length_nil] at this ⊢
    omega
theorem newQ_len {r : List Nat} {bx bz : List Int} : (newQ r bx bz).length = min bx.length bz.length := by simp [newQ]
theorem JA.turn {br : Nat → List Int} (G : GOk br) {o : Nat} (hSy : ∀ k, k < 4 → ∀ s ∈ br k, s ∈ symsO o ∧ s ≠ 0) {W : Int → Str} {q : Nat × Nat} {r : List Nat} {x y : Int} {Q : List Trip} {f : Option (List Nat)} {s : List Int} (J : JA br o q ((r, x, y) :: Q) f s) :
    x ∈ symsO o ∧ y ∈ symsO o ∧ r.length ≤ 1000 ∧ s.length < 1000 ∧ (flat W ((r, x, y) :: Q)).length < 2 ^ 20 ∧ JA br o q (Q ++ turnQ br r x y f s) (turnF br r x y f s) (turnS r x y f s) ∧ muA (Q ++ turnQ br r x y f s) (turnS r x y f s) < muA ((r, x, y) :: Q) s := by
  obtain ⟨J1, J2, J3⟩ := J
  have hl := J1.seen_len
  have h1 := J2 _ List.mem_cons_self
  have h2 := (J1.sym _ List.mem_cons_self)
  simp only at h1 h2
  have J' := J1.turn G
  have hl' := J'.seen_len
  rw [List.length_cons] at J3
  refine ⟨h1.1, h1.2, by omega, by omega, by rw [flat_len, List.length_cons]; omega, ⟨J', fun e he => ?_, ?_⟩, ?_⟩
  · rcases List.mem_append.mp he with he | he
    · exact J2 e (List.mem_cons_of_mem _ he)
    · unfold turnQ at he
      split at he
      · rename_i hg
        obtain ⟨_, gx, gy, _⟩ := hg
        obtain ⟨jx, hjx, rfl⟩ : ∃ j : Nat, j < 4 ∧ x = 256 + (j : Int) := h2.1.elim (fun h => by omega) id
        obtain ⟨jy, hjy, rfl⟩ : ∃ j : Nat, j < 4 ∧ y = 256 + (j : Int) := h2.2.1.elim (fun h => by omega) id
        obtain ⟨i, k1, k2, rfl⟩ := newQ_mem.mp he
        rw [show (256 + (jx : Int) - 256).toNat = jx by omega] at k1 ⊢
        rw [show (256 + (jy : Int) - 256).toNat = jy by omega] at k2 ⊢
        exact ⟨(hSy jx hjx _ (getD_mem k1)).1, (hSy jy hjy _ (getD_mem k2)).1⟩
      · cases he
  all_goals
    unfold turnQ turnS at *
    split
    · rename_i hg
      rw [if_pos hg] at hl'
      obtain ⟨_, gx, gy, _⟩ := hg
      obtain ⟨jx, hjx, rfl⟩ : ∃ j : Nat, j < 4 ∧ x = 256 + (j : Int) := h2.1.elim (fun h => by omega) id
      obtain ⟨jy, hjy, rfl⟩ : ∃ j : Nat, j < 4 ∧ y = 256 + (j : Int) := h2.2.1.elim (fun h => by omega) id
      have b1 := G.len jx hjx
      have e1 := newQ_len (r := r) (bx := br (256 + (jx : Int) - 256).toNat) (bz := br (256 + (jy : Int) - 256).toNat)
      rw [show (256 + (jx : Int) - 256).toNat = jx by omega] at e1 ⊢
      simp only [muA, List.length_append, List.length_cons, List.length_nil] at *
      omega
    · simp only [muA, List.length_append, List.length_cons, List.length_nil] at *
      omega
theorem JA.fin {br : Nat → List Int} (G : GOk br) {o : Nat} {q : Nat × Nat} (hq : q.1 < 4 ∧ q.2 < 4) {f : Option (List Nat)} {s : List Int} (J : JA br o q [] f s) : f = due br q := by
  cases f with
  | none => exact (due_none fun t ht hd => by obtain ⟨e, he, _⟩ := J.1.live rfl t ht hd; cases he).symm
  | some r =>
    obtain ⟨h1, h2, h3⟩ := J.1.dead r rfl
    exact (due_some G hq h1 h2 h3).symm
theorem road_ok {r : List Nat} (h : ∀ d ∈ r, d < 2) : PyData.strOk (roadS r) = true := by
  simp only [PyData.strOk, roadS, List.all_toArray, List.all_eq_true, List.mem_map, decide_eq_true_eq]
  rintro c ⟨d, hd, rfl⟩
  have := h d hd
  omega
theorem word_ok {i o : Nat} (hi : i < 6) (ho : OthOk o) {s : Int} (hs : s ∈ symsO o) : PyData.strOk (W2 i o s) = true := by
  obtain ⟨k, h1, h2, _, h4, _⟩ := sym_ix hi ho hs
  rw [h4]
  have : (wordsI i).all PyData.strOk = true := by rcases six hi with rfl | rfl | rfl | rfl | rfl | rfl <;> decide +kernel
  exact List.all_eq_true.mp this _ (List.getElem_mem h2)
theorem JA.strs {br : Nat → List Int} {i o : Nat} (hi : i < 6) (ho : OthOk o) {q : Nat × Nat} {Q : List Trip} {f : Option (List Nat)} {s : List Int} (J : JA br o q Q f s) : StrsOk (flat (W2 i o) Q) := fun v hv => by
  obtain ⟨t, ht, hv⟩ := List.mem_flatMap.mp hv
  have h1 := (J.1.sym t ht).2.2.1
  have h2 := J.2.1 t ht
  simp only [tw, List.mem_cons, List.not_mem_nil, or_false] at hv
  rcases hv with rfl | rfl | rfl
  · exact ⟨_, rfl, road_ok h1⟩
  · exact ⟨_, rfl, word_ok hi ho h2.1⟩
  · exact ⟨_, rfl, word_ok hi ho h2.2⟩
end Mine
set_option maxRecDepth 100000
namespace Mine
open PySem PyProof.Rows
theorem enc_good : ∀ c ∈ cases672, (∀ x ∈ enc c, x < 0x110000) ∧ enc c ≠ [] := by
  have : cases672.all (fun c => (enc c).all (fun x => decide (x < 0x110000)) && !(enc c).isEmpty) = true := by kernel_rfl
  intro c hc
  have := List.all_eq_true.mp this c hc
  simp only [Bool.and_eq_true, List.all_eq_true, decide_eq_true_eq, Bool.not_eq_true', List.isEmpty_eq_false_iff] at this
  exact this
theorem last_good {c : Str × Nat × Nat} (hc : c ∈ cases672) {n : Nat} : token (enc c).dropLast n = (c.1.cps.toList, [], n + ((enc c).dropLast).count 10) := List.map_inj_left.mp token_last c hc
theorem txt_of {W : Int → Str} : ∀ (cs : List (Str × Nat × Nat)) (ss : List Int), (∀ c ∈ cs, c ∈ cases672) → cs.map (·.1) = ss.map W → cs ≠ [] → 30 * cs.length < 2 ^ 20 → Txt W (cs.flatMap enc).dropLast ss
  | [], _, _, _, h, _ => absurd rfl h
  | c :: cs, [], _, h, _, _ => by simp at h
  | c :: cs, s :: ss, hc, hm, _, hl => by
    simp only [List.map_cons, List.cons.injEq] at hm
    obtain ⟨hm1, hm2⟩ := hm
    have hcc := hc c List.mem_cons_self
    have hc' : ∀ d ∈ cs, d ∈ cases672 := fun d hd => hc d (List.mem_cons_of_mem _ hd)
    have hlen := encs_len hc
    refine ⟨⟨fun x hx => ?_, ?_⟩, ?_⟩
    · obtain ⟨d, hd, hx⟩ := List.mem_flatMap.mp (List.dropLast_subset _ hx)
      exact (enc_good d (hc d hd)).1 x hx
    · rw [List.length_dropLast]; omega
    · cases cs with
      | nil =>
        have : ss = [] := by simpa using hm2.symm
        subst this
        have e1 : (List.flatMap enc [c]).dropLast = (enc c).dropLast := by simp
        rw [e1]
        refine ⟨[], 0 + ((enc c).dropLast).count 10, ?_, ?_, rfl⟩
        · rw [← hm1]
          exact last_good hcc
        · simp
      | cons d ds =>
        have hne : (d :: ds).flatMap enc ≠ [] := by
          rw [List.flatMap_cons]
          exact fun e => (enc_good d (hc' d List.mem_cons_self)).2 (List.append_eq_nil_iff.mp e).1
        have hd : ((c :: d :: ds).flatMap enc).dropLast = enc c ++ ((d :: ds).flatMap enc).dropLast := by
          rw [List.flatMap_cons, List.dropLast_append_of_ne_nil hne]
        rw [hd]
        refine ⟨((d :: ds).flatMap enc).dropLast, 0 + (enc c).count 10, by rw [← hm1]; exact token_all hcc, ?_, txt_of (d :: ds) ss hc' hm2 (by simp) (by simp only [List.length_cons] at hl ⊢; omega)⟩
        rw [List.count_append]; omega
/-- the lexer stands ahead of these symbols' words -/
structure LS (W : Int → Str) (s : Sto) (l lf : Nat) (tot : Int) (ss : List Int) : Prop where
  st : ∃ ln cs, s.get l = some (.lexer ln lf []) ∧ s.get lf = some (.list (chars cs)) ∧ Txt W cs ss ∧ ln + (cs.count 10 : Nat) = tot
  l1 : l < s.nx
  l2 : lf < s.nx
  tab : ∃ b, s.get 0 = some (.tab b)
theorem LS.keep {W : Int → Str} {s s' : Sto} {l lf : Nat} {tot : Int} {ss : List Int} (h : LS W s l lf tot ss) (k : Keep s.nx s s') : LS W s' l lf tot ss :=
  ⟨let ⟨ln, cs, a, b, c, d⟩ := h.st; ⟨ln, cs, k.get h.l1 a, k.get h.l2 b, c, d⟩, Nat.lt_of_lt_of_le h.l1 k.2, Nat.lt_of_lt_of_le h.l2 k.2, h.tab.imp fun _ e => k.get (Nat.lt_of_le_of_lt (Nat.zero_le _) h.l1) e⟩
theorem LS.get {W : Int → Str} {n : Nat} {s : Sto} {l lf : Nat} {tot : Int} {x : Int} {ss : List Int} (h : LS W s l lf tot (x :: ss)) : ∃ s', resM s (.loc l) "get_token" = some (.lex l "get_token") ∧ F (n + 1) "get_token" [.loc l] s = some (.str (W x), s') ∧ LS W s' l lf tot ss := by
  obtain ⟨ln, cs, g1, g2, ht, hc⟩ := h.st
  obtain ⟨cs', ln', e, t', c'⟩ := get_sym (n := n) g1 g2 ht
  obtain ⟨b, eb⟩ := h.tab
  have hll : lf ≠ l := by rintro rfl; rw [g1] at g2; cases g2
  exact ⟨_, by simp only [resM, g1]; rfl, e, ⟨_, cs', lexAt_get, lexAt_left hll, t', by omega⟩, h.l1, h.l2, b, ((upd_ne (fun q => by rw [q, g1] at eb; cases eb)).trans (upd_ne (fun q => by rw [q, g2] at eb; cases eb))).trans eb⟩
theorem eqvAll_ints : ∀ xs : List Int, PyData.eqvAll (xs.map PyData.int) (xs.map PyData.int) = true
  | [] => by simp [PyData.eqvAll]
  | x :: xs => by simp [PyData.eqvAll, PyData.eqv, eqvAll_ints xs]
theorem eqv_same : ∀ ds : List PyData, (∀ d ∈ ds, PyData.eqv d d = true) → PyData.eqvAll ds ds = true
  | [], _ => by simp [PyData.eqvAll]
  | d :: ds, h => by
    simp only [PyData.eqvAll, h d List.mem_cons_self, Bool.true_and]
    exact eqv_same ds fun e he => h e (List.mem_cons_of_mem _ he)
theorem toPys_rules {br : Nat → List Int} : ∀ ks : List Nat, toPys 7 (ks.map (ruleA br)) = some (ks.map fun k => .list ((ruleZ br k).map PyData.int))
  | [] => rfl
  | k :: ks => by
    have h1 : toPy 7 (ruleA br k) = some (.list ((ruleZ br k).map PyData.int)) := by simp [ruleA, toPy, toPys_ints]
    simp [toPys, h1, toPys_rules ks]
theorem rules_same {br : Nat → List Int} {σ : Sto} {ks : List Nat} : cmpA σ .NotEq (.list (ks.map (ruleA br))) (.list (ks.map (ruleA br))) = some false := by
  have h1 : toPy 8 (.list (ks.map (ruleA br))) = some (.list (ks.map fun k => .list ((ruleZ br k).map PyData.int))) := by simp [toPy, toPys_rules]
  show ((toPy 8 (.list (ks.map (ruleA br)))).bind fun a => (toPy 8 (.list (ks.map (ruleA br)))).map fun b => PyData.eqv a b).map (!·) = _
  rw [h1]
  show some (!PyData.eqv _ _) = _
  simp only [PyData.eqv]
  rw [eqv_same]
  · rfl
  · intro d hd
    obtain ⟨k, _, rfl⟩ := List.mem_map.mp hd
    simp only [PyData.eqv, eqvAll_ints]
/-- the rules are read as they were meant -/
theorem law_read {n : Nat} {m : Fm} {σ : Sto} {i o l lf : Nat} {tot : Int} {br : Nat → List Int} {rest : List Int} (hi : i < 6) (ho : OthOk o) (hb2 : ∀ k, k < 4 → (br k).length ≤ 2) (hsy : ∀ k, k < 4 → ∀ s ∈ ruleZ br k, s ∈ symsO o) (h1 : m "rules" = some (rulesA br)) (h2 : m "lexer" = some (.loc l)) (h3 : m "told" = some (toldA i o)) (hL : LS (W2 i o) σ l lf tot (rsyms br ++ rest))
    {P : Fl × Fm × Sto → Prop} (hP : ∀ σ', LS (W2 i o) σ' l lf tot rest → P (.next, m, σ')) : Sat (ex cfgP (F (n + 1)) (lawSt 15) scL m σ) P := by
  have hw := wok hi ho
  generalize toldA i o = told at *
  generalize writtenA i o = wr at *
  refine x_if <| t_cmp <| q_listcomp (by kernel_rfl) <| q_src rfl <| q_name (Eq.trans (b := m "rules") (by kernel_rfl) h1) ?_
  refine compA_inv (xs := (List.range 4).map (ruleA br)) (I := fun k b => b.1 = ⟨.ki [], ((List.range 4).take k).map (ruleA br)⟩ ∧ LS (W2 i o) b.2 l lf tot (((List.range 4).drop k).flatMap (ruleZ br) ++ rest)) ⟨by kernel_rfl, by kernel_rfl⟩ ⟨rfl, hL⟩ (fun k b h => rfl) (fun b h => ?_) (fun k b hk h => ?_)
  · obtain ⟨acc, σ'⟩ := b
    obtain ⟨e1, e2⟩ := h
    simp only at e1 e2
    subst e1
    have e3 : ((List.range 4).take ((List.range 4).map (ruleA br)).length) = List.range 4 := by simp
    have e4 : ((List.range 4).drop ((List.range 4).map (ruleA br)).length) = [] := by simp
    rw [e4] at e2
    simp only
    rw [e3, mkL_f (by kernel_rfl)]
    refine q_name (Eq.trans (b := m "rules") (by kernel_rfl) h1) <| .eq rules_same ?_
    rw [if_neg (by simp)]
    exact x_nil (hP _ e2)
  · obtain ⟨acc, σ'⟩ := b
    obtain ⟨e1, e2⟩ := h
    simp only at e1 e2
    subst e1
    have hk4 : k < 4 := by simpa using hk
    have hkr : k < (List.range 4).length := hk4
    have ed : (List.range 4).drop k = k :: (List.range 4).drop (k + 1) := by rw [List.drop_eq_getElem_cons hkr, List.getElem_range]
    rw [ed, List.flatMap_cons, List.append_assoc] at e2
    have ex0 : ((List.range 4).map (ruleA br))[k]'hk = ruleA br k := by simp
    have et : (List.range 4).take (k + 1) = (List.range 4).take k ++ [k] := by rw [take_snoc hkr, List.getElem_range]
    rw [ex0]
    have hl4 : (ruleZ br k).length ≤ 4 := by have := hb2 k hk4; simp [ruleZ]; omega
    refine .eq (a := (inner _ m).set "rule" (ruleA br k)) rfl <| t_trs0 ?_
    rw [if_pos rfl]
    refine q_gens0 <| q_emitL <| q_listcomp (by kernel_rfl) <| q_src rfl <| q_name (v := ruleA br k) (by kernel_rfl) ?_
    refine compA_inv (xs := (ruleZ br k).map AV.int) (I := fun j b => b.1 = ⟨.ki [], ((ruleZ br k).take j).map AV.int⟩ ∧ LS (W2 i o) b.2 l lf tot ((ruleZ br k).drop j ++ (((List.range 4).drop (k + 1)).flatMap (ruleZ br) ++ rest))) ⟨by kernel_rfl, by kernel_rfl⟩ ⟨rfl, e2⟩ (fun k b h => rfl) (fun b h => ?_) (fun j b hj h => ?_)
    · obtain ⟨acc, σ2⟩ := b
      obtain ⟨f1, f2⟩ := h
      simp only at f1 f2
      subst f1
      have e5 : (ruleZ br k).take ((ruleZ br k).map AV.int).length = ruleZ br k := by rw [List.length_map, List.take_length]
      rw [e5]
      rw [List.length_map, List.drop_length, List.nil_append] at f2
      refine ⟨by simp; omega, ?_, f2⟩
      show (⟨.ki [], ((List.range 4).take k).map (ruleA br) ++ [(mkL cfgP _ ((ruleZ br k).map AV.int) σ2).1]⟩ : Acc) = _
      rw [mkL_f (by kernel_rfl), et, List.map_append]
      rfl
    · obtain ⟨acc, σ2⟩ := b
      obtain ⟨f1, f2⟩ := h
      simp only at f1 f2
      subst f1
      have hj' : j < (ruleZ br k).length := by simpa using hj
      have hsj := hsy k hk4 _ (List.getElem_mem hj')
      have etj := take_snoc hj'
      rw [List.drop_eq_getElem_cons hj', List.cons_append] at f2
      rw [List.getElem_map]
      generalize (ruleZ br k)[j] = s at *
      refine .eq (a := (inner _ ((inner _ m).set "rule" (ruleA br k))).set "symbol" (.int s)) rfl <| t_trs0 ?_
      rw [if_pos rfl]
      obtain ⟨σ3, r1, r2, r3⟩ := f2.get (n := n)
      refine q_gens0 <| q_emitL <| q_call rfl (g := .glob "_law_symbol") (by kernel_rfl) <| q_cons <| q_meth (by decide) <| q_name (Eq.trans (b := m "lexer") (by kernel_rfl) h2) <| .eq r1 <| q_nil <| .eq r2 <| q_cons <| q_name (Eq.trans (b := m "told") (by kernel_rfl) h3) <| q_nil <| .eq (hw.sym (n := n) hsj) ⟨?_, ?_, r3.keep (Keep.upto (Nat.le_refl _))⟩
      · simp; omega
      · simp only
        rw [etj, List.map_append]
        rfl
end Mine
set_option maxRecDepth 100000
namespace Mine
open PySem PyProof.Rows
theorem call_list {Φ : Fns} {p : Pos} {σ : Sto} {cs : List Nat} (hp : cfgP.mu p = true) (hl : cs.length ≤ 2 ^ 20) : callV cfgP Φ p (.bi "list") [.str ⟨cs.toArray⟩] σ = some (.loc σ.nx, σ.new (.list (chars cs))) := by
  show (if cs.toArray.size ≤ 2 ^ 20 then some (mkL cfgP p (cs.toArray.toList.map fun c => AV.str ⟨#[c]⟩) σ) else none) = _
  rw [if_pos (by simpa using hl), mkL, if_pos hp]
  rfl
theorem call_stream {n l : Nat} {σ : Sto} (h0 : σ.get 0 = some (.tab true)) (h1 : l < σ.nx ∧ l ≠ 0) : F (n + 1) "_law_stream" [.loc l] σ = some (.stream l, σ.upd 0 (.tab false)) := by
  show (match σ.get 0 with
    | some (.tab true) => if l < σ.nx ∧ l ≠ 0 then some (AV.stream l, σ.upd 0 (.tab false)) else none
    | _ => none) = _
  rw [h0]
  show (if _ then _ else none) = _
  rw [if_pos h1]
theorem call_lexer {n l : Nat} {σ : Sto} : F (n + 1) "_netrclex" [.stream l] σ = some (.loc σ.nx, σ.new (.lexer 1 l [])) := by kernel_rfl
theorem law_lexer {n : Nat} {m : Fm} {σ : Sto} {W : Int → Str} {cs : List Nat} {ss : List Int} (h1 : m "text" = some (.str ⟨cs.toArray⟩)) (hl : cs.length ≤ 2 ^ 20) (h0 : σ.get 0 = some (.tab true)) (hn : 0 < σ.nx) (ht : Txt W cs ss)
    {P : Fl × Fm × Sto → Prop} (hP : ∀ l lf σ', LS W σ' l lf (1 + (cs.count 10 : Nat)) ss → P (.next, m.set "lexer" (.loc l), σ')) : Sat (ex cfgP (F (n + 1)) (lawSt 14) scL m σ) P := by
  refine x_assign rfl (by kernel_rfl) <| q_call rfl (g := .glob "_netrclex") (by kernel_rfl) <| q_cons <| q_call rfl (g := .glob "_law_stream") (by kernel_rfl) <| q_cons <| q_call rfl (g := .bi "list") (by kernel_rfl) <| q_cons <| q_name (Eq.trans (b := m "text") (by kernel_rfl) h1) <| q_nil <| .eq (call_list (by kernel_rfl) hl) <| q_nil ?_
  have k1 : Keep σ.nx σ (σ.new (.list (chars cs))) := Keep.new (Nat.le_refl _)
  refine .eq (call_stream (n := n) (k1.get hn h0) ⟨Nat.lt_succ_self _, Nat.ne_of_gt hn⟩) <| q_nil <| .eq (call_lexer (n := n)) ?_
  refine hP _ σ.nx _ ⟨⟨1, cs, new_get, ?_, ht, by omega⟩, Nat.lt_succ_self _, Nat.lt_succ_of_lt (Nat.lt_succ_self _), false, ?_⟩
  · have e1 : ((σ.new (.list (chars cs))).upd 0 (.tab false)).get σ.nx = some (.list (chars cs)) := (upd_ne (Nat.ne_of_gt hn)).trans new_get
    exact (Keep.new (o := .lexer 1 σ.nx []) (Nat.le_refl _)).get (Nat.lt_succ_self σ.nx) e1
  · have e1 : ((σ.new (.list (chars cs))).upd 0 (.tab false)).get 0 = some (.tab false) := upd_at
    exact (Keep.new (o := .lexer 1 σ.nx []) (Nat.le_refl _)).get (Nat.zero_lt_succ σ.nx) e1
theorem law_leads {Φ : Fns} {m : Fm} {σ : Sto} {br : Nat → List Int} (h1 : m "rules" = some (rulesA br)) {P : Fl × Fm × Sto → Prop} (hP : P (.next, m.set "leads" (leadsA br), σ)) : Sat (ex cfgP Φ (lawSt 16) scL m σ) P := by
  refine x_assign rfl (by kernel_rfl) <| q_dictcomp (by kernel_rfl) <| q_src rfl <| q_name (Eq.trans (b := m "rules") (by kernel_rfl) h1) ?_
  refine compA_inv (xs := (List.range 4).map (ruleA br)) (I := fun k b => b = (⟨.ki (((List.range 4).take k).map fun (k : Nat) => 256 + (k : Int)), ((List.range 4).take k).map (ruleA br)⟩, σ)) ⟨by kernel_rfl, by kernel_rfl⟩ rfl (fun k b h => rfl) (fun b h => ?_) (fun k b hk h => ?_)
  · subst h
    exact hP
  · subst h
    have hk4 : k < 4 := by simpa using hk
    have ex0 : ((List.range 4).map (ruleA br))[k]'hk = ruleA br k := by simp
    rw [ex0]
    refine .eq (a := (inner _ m).set "rule" (ruleA br k)) rfl <| t_trs0 ?_
    rw [if_pos rfl]
    refine q_gens0 <| q_emitD <| q_sub rfl <| q_name (v := ruleA br k) (by kernel_rfl) <| .eq rfl <| .eq (a := .int (256 + (k : Int))) (getA_list (i := 0) rfl) <| q_name (v := ruleA br k) (by kernel_rfl) <| .eq (a := (.ki (((List.range 4).take (k + 1)).map fun (k : Nat) => 256 + (k : Int)), ((List.range 4).take (k + 1)).map (ruleA br))) ?_ rfl
    have : k = 0 ∨ k = 1 ∨ k = 2 ∨ k = 3 := by omega
    rcases this with rfl | rfl | rfl | rfl <;> kernel_rfl
def duePy : Option (List Nat) → PyData
  | none => .none
  | some ds => .str (roadS ds)
theorem getD_bits (k : Nat) : ∀ d ∈ roads15.getD k [], d < 2 := by
  by_cases h : k < 15
  · exact (roads_bits _ (roads_mem h)).1
  · have : roads15[k]? = none := List.getElem?_eq_none (by show 15 ≤ k; omega)
    simp [List.getD, this]
theorem toPys_due {br : Nat → List Int} : ∀ qs : List (Nat × Nat), toPys 7 (qs.map fun q => dueA (due br q)) = some (qs.map fun q => duePy (due br q))
  | [] => rfl
  | q :: qs => by
    have h1 : toPy 7 (dueA (due br q)) = some (duePy (due br q)) := by
      unfold due
      cases (List.range 15).find? (pk br q) with
      | none => rfl
      | some k =>
        show (if PyData.strOk (roadS (roads15.getD k [])) = true then some (PyData.str (roadS (roads15.getD k []))) else none) = _
        rw [if_pos (road_ok (getD_bits k))]
        rfl
    simp [toPys, h1, toPys_due qs]
theorem due_same {br : Nat → List Int} {σ : Sto} {qs : List (Nat × Nat)} : cmpA σ .NotEq (.list (qs.map fun q => dueA (due br q))) (.list (qs.map fun q => dueA (due br q))) = some false := by
  have h1 : toPy 8 (.list (qs.map fun q => dueA (due br q))) = some (.list (qs.map fun q => duePy (due br q))) := by simp [toPy, toPys_due]
  show ((toPy 8 (.list (qs.map fun q => dueA (due br q)))).bind fun a => (toPy 8 (.list (qs.map fun q => dueA (due br q)))).map fun b => PyData.eqv a b).map (!·) = _
  rw [h1]
  show some (!PyData.eqv _ _) = _
  simp only [PyData.eqv]
  rw [eqv_same]
  · rfl
  · intro d hd
    obtain ⟨q, _, rfl⟩ := List.mem_map.mp hd
    cases due br q with
    | none => rfl
    | some ds => simp [duePy, PyData.eqv]
theorem law_answ {n : Nat} {m : Fm} {σ : Sto} {i o l lf : Nat} {tot : Int} {br : Nat → List Int} {qs : List (Nat × Nat)} (hi : i < 6) (ho : OthOk o) (G : GOk br) (hSy : ∀ k, k < 4 → ∀ s ∈ br k, s ∈ symsO o ∧ s ≠ 0) (hq : ∀ q ∈ qs, q.1 < 4 ∧ q.2 < 4) (hq9 : qs.length ≤ 9)
    (h1 : m "lexer" = some (.loc l)) (h2 : m "leads" = some (leadsA br)) (h3 : m "told" = some (toldA i o)) (h4 : m "written" = some (writtenA i o)) (h5 : m "questions" = some (.list (qs.map qA))) (hL : LS (W2 i o) σ l lf tot (qsyms qs))
    {P : Fl × Fm × Sto → Prop} (hP : ∀ σ', σ'.get l = some (.lexer tot lf []) → (∃ b, σ'.get 0 = some (.tab b)) → P (.next, m, σ')) : Sat (ex cfgP (F (n + 2)) (lawSt 17) scL m σ) P := by
  obtain ⟨ln, cs, g1, g2, ht, hc⟩ := hL.st
  have hNt : ∀ x, x ∈ symsO o → 256 ≤ x → ∃ j : Nat, j < 4 ∧ x = 256 + (j : Int) := fun x hx hx6 => by
    unfold OthOk at ho
    rcases syms_mem.mp hx with h | h | h
    · omega
    · rcases kinds_mem.mp h with h | h <;> omega
    · exact ⟨(x - 256).toNat, by omega, by omega⟩
  have hans := call_answers (n := n) (res := due br) (J := JA br o) (μ := muA) (σ := σ) G (wok hi ho) hSy hNt (fun j hj => name_sym hj) (syms_mem.mpr (.inl rfl)) W2_zero hq (by omega) (fun q hqm => .start (hq q hqm)) (fun q hqm => by simp [muA]) (fun q hqm Q f s J => J.strs hi ho) (fun q hqm r x y Q f s J => J.turn G hSy) (fun q hqm f s J => J.fin G (hq q hqm)) g1 g2 hL.l1 hL.l2 hL.tab ht
  generalize toldA i o = told at *
  generalize writtenA i o = wr at *
  refine x_if <| t_cmp <| q_call rfl (g := .glob "_law_answers") (by kernel_rfl) <| q_cons <| q_name (Eq.trans (b := m "lexer") (by kernel_rfl) h1) <| q_cons <| q_name (Eq.trans (b := m "leads") (by kernel_rfl) h2) <| q_cons <| q_name (Eq.trans (b := m "told") (by kernel_rfl) h3) <| q_cons <| q_name (Eq.trans (b := m "written") (by kernel_rfl) h4) <| q_nil <| hans.mono fun z hz => ?_
  obtain ⟨v, σ2⟩ := z
  obtain ⟨e1, e2, e3, e4⟩ := hz
  simp only at e1 e2 e3 e4
  subst e1
  refine q_call rfl (g := .glob "_law_due") (by kernel_rfl) <| q_cons <| q_name (Eq.trans (b := m "leads") (by kernel_rfl) h2) <| q_cons <| q_name (Eq.trans (b := m "questions") (by kernel_rfl) h5) <| q_nil <| (call_due (n := n) (σ := σ2) G hq (by omega)).mono fun z hz => ?_
  obtain ⟨v, σ3⟩ := z
  obtain ⟨f1, f2⟩ := hz
  simp only at f1 f2
  subst f1
  refine .eq due_same ?_
  rw [if_neg (by simp)]
  have hl2 : l < σ2.nx := Nat.lt_of_lt_of_le hL.l1 e4
  refine x_nil (hP _ ?_ (e3.imp fun _ e => f2.get (Nat.lt_of_le_of_lt (Nat.zero_le _) hl2) e))
  rw [hc] at e2
  exact f2.get hl2 e2
theorem law_last {Φ : Fns} {m : Fm} {σ : Sto} {l lf : Nat} {cs : List Nat} (h1 : m "lexer" = some (.loc l)) (h2 : m "text" = some (.str ⟨cs.toArray⟩)) (h3 : σ.get l = some (.lexer (1 + (cs.count 10 : Nat)) lf [])) {P : Fl × Fm × Sto → Prop} (hP : P (.ret (.bool true), m, σ)) : Sat (ex cfgP Φ (lawSt 18) scL m σ) P := by
  refine x_return <| q_cmp <| q_attr (by decide) <| q_name (Eq.trans (b := m "lexer") (by kernel_rfl) h1) <| .eq (a := .int (1 + (cs.count 10 : Nat))) ?_ <| q_bin <| .eq rfl <| q_meth (by decide) <| q_name (Eq.trans (b := m "text") (by kernel_rfl) h2) <| .eq (a := .count ⟨cs.toArray⟩) (by kernel_rfl) <| q_cons <| .eq rfl <| q_nil <| .eq (a := (.int (cs.count 10 : Nat), σ)) (by kernel_rfl) <| .eq rfl <| .eq (a := true) ?_ hP
  · simp only [attrA, h3]
    rfl
  · show some (PyData.eqv (.int _) (.int _)) = _
    simp [PyData.eqv]
end Mine
set_option maxRecDepth 100000
namespace Mine
open PySem PyProof.Rows
theorem five {α : Type} {l : List α} (h : l.length = 5) : ∃ a b c d e, l = [a, b, c, d, e] := by
  match l, h with
  | [a, b, c, d, e], _ => exact ⟨a, b, c, d, e, rfl⟩
theorem law_pure {zs : List Int} (hlen : zs.length ≤ 63) : Sat (F 10 "law" [.list (zs.map AV.int)] σ₀) fun r => r.1 = .bool true ∧ ∃ b, r.2.get 0 = some (.tab b) := by
  rw [F_def (i := 64) (by decide) (by kernel_rfl)]
  refine sat_call (by kernel_rfl) ?_
  have h0 : (fun x => ((defP 64).params.zip [AV.list (zs.map AV.int)]).lookup x : Str → Option AV) "script" = some (.list (zs.map AV.int)) := by kernel_rfl
  generalize (fun x => ((defP 64).params.zip [AV.list (zs.map AV.int)]).lookup x : Str → Option AV) = m0 at *
  refine x_cons (by kernel_rfl) <| law_numbers (zs := zs) h0 hlen ?_
  obtain ⟨n0, n1, n2, n3, n4, en⟩ := five (numsOf_len (zs := zs))
  rw [en]
  have a1 : (Fm.set m0 "numbers" (.list (([n0, n1, n2, n3, n4] : List Int).map AV.int))) "numbers" = some (n5 n0 n1 n2 n3 n4) := by kernel_rfl
  have a2 : (Fm.set m0 "numbers" (.list (([n0, n1, n2, n3, n4] : List Int).map AV.int))) "script" = some (.list (zs.map AV.int)) := Eq.trans (b := m0 "script") (by kernel_rfl) h0
  generalize (Fm.set m0 "numbers" (.list (([n0, n1, n2, n3, n4] : List Int).map AV.int))) = m at *
  refine x_cons (by kernel_rfl) <| law_other a1 fun o ho => ?_
  refine x_cons (by kernel_rfl) <| law_signs ?_
  refine x_cons (by kernel_rfl) <| law_names (Eq.trans (b := m "numbers") (by kernel_rfl) a1) fun i hi => ?_
  refine x_cons (by kernel_rfl) <| law_kinds (o := o) (Eq.trans (b := m "numbers") (by kernel_rfl) a1) (by kernel_rfl) fun f hf => ?_
  refine x_cons (by kernel_rfl) <| law_told hi (o := o) (by kernel_rfl) (by kernel_rfl) ?_
  refine x_cons (by kernel_rfl) <| law_writ hi ho (by kernel_rfl) (by kernel_rfl) (by kernel_rfl) ?_
  refine x_cons (by kernel_rfl) <| law_symbols (o := o) hf (Eq.trans (b := m "numbers") (by kernel_rfl) a1) (by kernel_rfl) (by kernel_rfl) fun a b ha hb => ?_
  refine x_cons (by kernel_rfl) <| x_assign rfl (by kernel_rfl) <| .eq (a := (.loc 1, σ₀.new (.list []))) (by kernel_rfl) ?_
  refine x_cons (by kernel_rfl) <| law_rules (sy := [a, b, 256, 257, 258, 259]) (L := 1) rfl (Eq.trans (b := m "numbers") (by kernel_rfl) a1) (by kernel_rfl) (by kernel_rfl) (by kernel_rfl) fun m2 σ2 br f2 b2 g2 k2 => ?_
  have c1 : m2 "numbers" = some (n5 n0 n1 n2 n3 n4) := (f2 _ (by decide) (by decide)).trans (Eq.trans (b := m "numbers") (by kernel_rfl) a1)
  have c2 : m2 "script" = some (.list (zs.map AV.int)) := (f2 _ (by decide) (by decide)).trans (Eq.trans (b := m "script") (by kernel_rfl) a2)
  have c3 : m2 "told" = some (toldA i o) := (f2 _ (by decide) (by decide)).trans (by kernel_rfl)
  have c4 : m2 "written" = some (writtenA i o) := (f2 _ (by decide) (by decide)).trans (by kernel_rfl)
  have c5 : m2 "rules" = some (.loc 1) := (f2 _ (by decide) (by decide)).trans (by kernel_rfl)
  have z2 : σ2.get 0 = some (.tab true) := (k2.1 0 (by decide)).trans (by kernel_rfl)
  have x2 : 2 ≤ σ2.nx := k2.2
  clear f2 k2
  -- the rules are not written any more
  refine x_consF (x := "rules") (by kernel_rfl) c5 g2 <| law_quest (zs := zs) (Eq.trans (b := m2 "script") (by kernel_rfl) c2) hlen fun qs hq9 hq => ?_
  have z3 : (σ2.forget 1).get 0 = some (.tab true) := (Keep.forget (n := 1) (Nat.le_refl _)).get (by decide) z2
  have x3 : 2 ≤ (σ2.forget 1).nx := x2
  simp only
  generalize σ2.forget 1 = σ3 at *
  refine x_cons (by kernel_rfl) <| x_assign rfl (by kernel_rfl) <| .eq (a := (.loc σ3.nx, σ3.new (.list []))) (by kernel_rfl) ?_
  have hbr : ∀ k, k < 4 → ∀ s ∈ br k, s ∈ symsO o ∧ s ≠ 0 := fun k hk s hs => by
    have hs := (b2 k hk).2 s hs
    have ka : ∀ x, x ∈ kindsO o → x ≠ 0 := fun x hx => by
      unfold OthOk at ho
      rcases kinds_mem.mp hx with h | h <;> omega
    simp only [List.mem_cons, List.not_mem_nil, or_false] at hs
    rcases hs with rfl | rfl | hs
    · exact ⟨syms_mem.mpr (.inr (.inl ha)), ka _ ha⟩
    · exact ⟨syms_mem.mpr (.inr (.inl hb)), ka _ hb⟩
    · exact ⟨syms_mem.mpr (.inr (.inr (by omega))), by omega⟩
  have G : GOk br := ⟨fun k hk => (b2 k hk).1, fun k hk s hs => by
    obtain ⟨h1, h2⟩ := hbr k hk s hs
    unfold OthOk at ho
    rcases syms_mem.mp h1 with h | h | h
    · exact absurd h h2
    · left
      rcases kinds_mem.mp h with h | h <;> omega
    · exact .inr ⟨(s - 256).toNat, by omega, by omega⟩⟩
  have hrz : ∀ k, k < 4 → ∀ s ∈ ruleZ br k, s ∈ symsO o := fun k hk s hs => by
    rcases List.mem_cons.mp hs with rfl | hs
    · exact name_sym hk
    · rcases List.mem_append.mp hs with hs | hs
      · exact (hbr k hk s hs).1
      · rw [List.mem_singleton.mp hs]; exact syms_mem.mpr (.inl rfl)
  have hsy : ∀ s ∈ rsyms br ++ qsyms qs, s ∈ symsO o := fun s hs => by
    rcases List.mem_append.mp hs with hs | hs
    · obtain ⟨k, hk, hs⟩ := List.mem_flatMap.mp hs
      exact hrz k (List.mem_range.mp hk) s hs
    · obtain ⟨q, hqm, hs⟩ := List.mem_flatMap.mp hs
      have := hq q hqm
      simp only [List.mem_cons, List.not_mem_nil, or_false] at hs
      rcases hs with rfl | rfl
      · exact name_sym this.1
      · exact name_sym this.2
  refine x_cons (by kernel_rfl) <| law_texts (n := 8) (L := σ3.nx) (br := br) (qs := qs) hi ho G.len hq9 hsy (Eq.trans (b := m2 "numbers") (by kernel_rfl) c1) (Eq.trans (b := m2 "written") (by kernel_rfl) c4) (by kernel_rfl) (by kernel_rfl) (by kernel_rfl) new_get (Nat.lt_succ_self _) fun m4 σ4 cs f4 d1 d2 g4 k4 => ?_
  have e1 : m4 "rules" = some (rulesA br) := (f4 _ (by decide) (by decide)).trans (by kernel_rfl)
  have e2 : m4 "questions" = some (.list (qs.map qA)) := (f4 _ (by decide) (by decide)).trans (by kernel_rfl)
  have e3 : m4 "told" = some (toldA i o) := (f4 _ (by decide) (by decide)).trans (Eq.trans (b := m2 "told") (by kernel_rfl) c3)
  have e4 : m4 "written" = some (writtenA i o) := (f4 _ (by decide) (by decide)).trans (Eq.trans (b := m2 "written") (by kernel_rfl) c4)
  have e5 : m4 "texts" = some (.loc σ3.nx) := (f4 _ (by decide) (by decide)).trans (by kernel_rfl)
  have z4 : (σ4.forget σ3.nx).get 0 = some (.tab true) := (Keep.forget (n := σ3.nx) (Nat.le_refl _)).get (by omega) (k4.get (by omega) ((Keep.new (n := σ3.nx) (Nat.le_refl _)).get (by omega) z3))
  have x4 : 0 < (σ4.forget σ3.nx).nx := Nat.lt_of_lt_of_le (Nat.zero_lt_succ _) k4.2
  have hcl : cs.length ≤ 34 := by
    have h1 := congrArg List.length d2
    have h2 := rsyms_len G.len
    have h3 := qsyms_len qs
    simp only [List.length_map, List.length_append] at h1
    omega
  have hne : cs ≠ [] := fun e => by
    have h1 := congrArg List.length d2
    rw [e] at h1
    simp [rsyms, ruleZ, List.range_succ] at h1
  refine x_consF (x := "texts") (by kernel_rfl) e5 g4 <| law_text (cs := cs) (by kernel_rfl) d1 (by omega) ?_
  have hl := encs_len d1
  have ht := txt_of (W := W2 i o) cs _ d1 d2 hne (by omega)
  have hl2 : ((cs.flatMap enc).dropLast).length ≤ 2 ^ 20 := by rw [List.length_dropLast]; omega
  simp only
  generalize σ4.forget σ3.nx = σ5 at *
  generalize (cs.flatMap enc).dropLast = tx at *
  refine x_cons (by kernel_rfl) <| law_lexer (n := 8) (cs := tx) (by kernel_rfl) hl2 z4 x4 ht fun l lf σ6 L6 => ?_
  refine x_cons (by kernel_rfl) <| law_read (n := 8) (br := br) hi ho G.len hrz (Eq.trans (b := m4 "rules") (by kernel_rfl) e1) (by kernel_rfl) (Eq.trans (b := m4 "told") (by kernel_rfl) e3) L6 fun σ7 L7 => ?_
  refine x_cons (by kernel_rfl) <| law_leads (br := br) (Eq.trans (b := m4 "rules") (by kernel_rfl) e1) ?_
  refine x_cons (by kernel_rfl) <| law_answ (n := 7) (br := br) hi ho G hbr hq hq9 (by kernel_rfl) (by kernel_rfl) (Eq.trans (b := m4 "told") (by kernel_rfl) e3) (Eq.trans (b := m4 "written") (by kernel_rfl) e4) (Eq.trans (b := m4 "questions") (by kernel_rfl) e2) L7 fun σ8 g8 t8 => ?_
  refine x_cons (by kernel_rfl) <| law_last (cs := tx) (by kernel_rfl) (by kernel_rfl) g8 ⟨rfl, ?_⟩
  obtain ⟨b, eb⟩ := t8
  exact ⟨b, eb⟩
end Mine
theorem PySem.Challenge.cw_ph0119_02_holds : PySem.Challenge.rw_ph0119_02.Holds := by
  refine Mine.law02_of fun zs hlen => ?_
  obtain ⟨⟨v, σ'⟩, e, h1, b, hb⟩ := Mine.law_pure hlen
  simp only at h1
  subst h1
  exact ⟨σ', b, e, hb⟩

