import PyProof.Rows.All
import Wide.All
import OpenK.AllK
import Wide.FinOn
import KE.KIntText
import PySem.Challenge.RW_sn0054_01
set_option Elab.async false

namespace Mine
section
open PySem
noncomputable section

def leq : List Nat → List Nat → Bool
  | [], [] => true
  | a :: x, b :: y => match Nat.beq a b with | true => leq x y | false => false
  | _, _ => false
def codeL : List Nat → Nat
  | [] => 0
  | c :: r => Nat.add c (Nat.mul 1114112 (codeL r))
def code (a : Str) : Nat := codeL a.cps.toList
def seq (a b : Str) : Bool := match Nat.beq (code a) (code b) with
  | true => leq a.cps.toList b.cps.toList
  | false => false

inductive Tr (α : Type) where
  | nil
  | node (v : Option α) (l r : Tr α)
def Tr.get {α : Type} (t : Tr α) : Nat → Option α :=
  @Tr.rec α (fun _ => Nat → Option α) (fun _ => none)
    (fun v _ _ il ir i => @Bool.rec (fun _ => Option α) (@Bool.rec (fun _ => Option α) (ir (Nat.pred (Nat.div i 2))) (il (Nat.div i 2)) (Nat.beq (Nat.mod i 2) 1)) v (Nat.beq i 0)) t
def Tr.ins {α : Type} (x : Option α) (n : Nat) : Tr α → Nat → Tr α :=
  @Nat.rec (fun _ => Tr α → Nat → Tr α) (fun t _ => t)
    (fun _ ih t i => @Tr.rec α (fun _ => Tr α)
      (@Bool.rec (fun _ => Tr α) (@Bool.rec (fun _ => Tr α) (.node none .nil (ih .nil (Nat.pred (Nat.div i 2)))) (.node none (ih .nil (Nat.div i 2)) .nil) (Nat.beq (Nat.mod i 2) 1)) (.node x .nil .nil) (Nat.beq i 0))
      (fun v l r _ _ => @Bool.rec (fun _ => Tr α) (@Bool.rec (fun _ => Tr α) (.node v l (ih r (Nat.pred (Nat.div i 2)))) (.node v (ih l (Nat.div i 2)) r) (Nat.beq (Nat.mod i 2) 1)) (.node x l r) (Nat.beq i 0)) t) n

inductive AV where
  | none | bool (b : Bool) | int (i : Int) | any | rng (lo hi : Int) | num (c : Int) | str (s : Str) | ref (i : Nat) | raw (v : Value) | scr
inductive AO where
  | list (xs : List AV) | tuple (xs : List AV) | cell (v : Option AV)
  | lit (l i : Nat) | tit (l i : Nat) | rit (a : Int) (n : Nat) | range (n : Int)
  | inst (d : Nat) | attrs (m : List (Str × AV)) | dict (es : List (Int × AV))
  | edict (i : Nat) | eitems (d : Nat) | eiter (d : Nat) | zip (a b : Nat)
structure VS where
  σ : Tr AO
  nx : Nat
  fs : List (Nat × List (Str × AV))
inductive AF where
  | next | brk | cont | ret (v : AV)
structure AEnv where
  scope : Scope
  loc : Nat
  cells : List (Str × Nat)

def lookS {β : Type} (x : Str) (l : List (Str × β)) : Option β :=
  @List.rec (Str × β) (fun _ => Option β) none (fun p _ ih => @Bool.rec (fun _ => Option β) ih (some p.2) (seq x p.1)) l
def setS {β : Type} (x : Str) (v : β) (l : List (Str × β)) : List (Str × β) :=
  @List.rec (Str × β) (fun _ => List (Str × β)) [(x, v)] (fun p r ih => @Bool.rec (fun _ => List (Str × β)) (p :: ih) ((x, v) :: r) (seq x p.1)) l
def VS.get (s : VS) (i : Nat) : Option AO := s.σ.get i
def VS.put (s : VS) (i : Nat) (o : AO) : VS := ⟨s.σ.ins (some o) (Nat.succ i) i, s.nx, s.fs⟩
def VS.del (s : VS) (i : Nat) : VS := ⟨s.σ.ins none (Nat.succ i) i, s.nx, s.fs⟩
def VS.new (s : VS) (o : AO) : VS := ⟨s.σ.ins (some o) (Nat.succ s.nx) s.nx, Nat.succ s.nx, s.fs⟩
def VS.push (s : VS) : VS := ⟨s.σ, Nat.succ s.nx, (s.nx, []) :: s.fs⟩
def VS.pop (s : VS) : VS := ⟨s.σ, s.nx, s.fs.tail⟩
def nth {α : Type} : List α → Nat → Option α
  | [], _ => none
  | x :: _, 0 => some x
  | _ :: r, n + 1 => nth r n

structure Fn where
  params : Arguments
  body : List Stmt
  scope : Scope
  kwd : List (Str × AV)
structure Sta where
  lo : Int
  hi : Int
  glob : List (Str × AV)
  fn : List (Nat × Fn)
  cls : Nat
  init : Nat
  meth : List (Str × Nat)
  pats : List Nat
  sn : Nat

def lookN {β : Type} (x : Nat) : List (Nat × β) → Option β
  | [] => none
  | p :: r => match Nat.beq x p.1 with | true => some p.2 | false => lookN x r
def lookI {β : Type} (x : Int) : List (Int × β) → Option β
  | [] => none
  | p :: r => match decide (x = p.1) with | true => some p.2 | false => lookI x r

def lowT : List (Str × Str) := [("ab", "ab"), ("AB", "ab"), ("a", "a"), ("A", "a"), ("b", "b"), ("B", "b"), ("Ab", "ab")]
def upT : List (Str × Str) := [("ab", "AB"), ("a", "A"), ("b", "B")]
def intT : List (Str × Int) := [("0", 0), ("255", 255), ("256", 256)]
def strT : List (Int × Str) := [(0, "0"), (255, "255"), (256, "256")]
def quietT : List (Str × Unit) := [("ab", ()), ("AB", ()), ("a", ()), ("A", ()), ("b", ()), ("B", ()), ("Ab", ()), ("0", ()), ("255", ()), ("256", ())]

def andThen {α β : Type} (x : Option α) (f : α → Option β) : Option β := match x with
  | some a => f a
  | none => none
def on {α β γ : Type} (x : Option (α × β)) (f : α → β → Option γ) : Option γ := match x with
  | some p => f p.1 p.2
  | none => none
def give {α : Type} (s : VS) (x : Option α) : Option (α × VS) := match x with
  | some a => some (a, s)
  | none => none
def listAt (s : VS) (v : AV) : Option (List AV) := match v with
  | .ref i => match s.get i with
    | some (.list xs) => some xs
    | _ => none
  | _ => none
def tupAt (s : VS) (v : AV) : Option (List AV) := match v with
  | .ref i => match s.get i with
    | some (.tuple xs) => some xs
    | _ => none
  | _ => none
def mkNew (s : VS) (o : AO) : AV × VS := (.ref s.nx, s.new o)
def few (xs : List AV) : Bool := Nat.ble xs.length 1000
def mkList (s : VS) (xs : List AV) : Option (AV × VS) := match few xs with
  | true => some (mkNew s (.list xs))
  | false => none
def mkTup (s : VS) (xs : List AV) : Option (AV × VS) := match few xs with
  | true => some (mkNew s (.tuple xs))
  | false => none

def mapO {α β : Type} (f : α → Option β) : List α → Option (List β)
  | [] => some []
  | x :: xs => andThen (f x) fun y => andThen (mapO f xs) fun ys => some (y :: ys)
def toDO (f : AV → Option PyData) (o : Option AO) : Option PyData := match o with
  | some (.list xs) => andThen (mapO f xs) fun ds => some (.list ds)
  | some (.tuple xs) => andThen (mapO f xs) fun ds => some (.tuple ds)
  | _ => none
/-- the data that a value bears -/
def toD (s : VS) : Nat → AV → Option PyData
  | 0, _ => none
  | n + 1, a => match a with
    | .int i => some (.int i)
    | .str x => andThen (lookS x quietT) fun _ => some (.str x)
    | .ref i => toDO (toD s n) (s.get i)
    | _ => none
def deq (s : VS) (a b : AV) : Option Bool := andThen (toD s 8 a) fun da => andThen (toD s 8 b) fun db => some (PyData.eqv da db)

def small (i : Int) : Bool := match decide (-1000000000 < i) with
  | true => decide (i < 1000000000)
  | false => false
def addA (s : VS) (a b : AV) : Option (AV × VS) := match a with
  | .int i => match b with | .int j => some (.int (i + j), s) | _ => none
  | .any => match b with | .int _ => some (.any, s) | _ => none
  | .ref _ => andThen (listAt s a) fun xs => andThen (listAt s b) fun ys => mkList s (xs ++ ys)
  | _ => none
def subA (s : VS) (a b : AV) : Option (AV × VS) := match b with
  | .int j => match a with
    | .int i => some (.int (i - j), s)
    | .num c => some (.num (c + j), s)
    | _ => none
  | _ => none
def mulL (s : VS) (j : Int) (xs : List AV) : Option (AV × VS) := match xs with
  | [x] => match decide (j < 1000) with
    | true => some (mkNew s (.list (List.replicate j.toNat x)))
    | false => none
  | _ => none
def mulA (s : VS) (a b : AV) : Option (AV × VS) := match b with
  | .int j => match small j with
    | true => match a with
      | .int i => some (.int (i * j), s)
      | .any => some (.any, s)
      | .ref _ => andThen (listAt s a) (mulL s j)
      | _ => none
    | false => none
  | _ => none
def divN (S : Sta) (s : VS) (c j : Int) : Option (AV × VS) := match decide ((S.lo - c) / j = (S.hi - 1 - c) / j) with
  | true => some (.int ((S.lo - c) / j), s)
  | false => none
def divA (S : Sta) (s : VS) (a b : AV) : Option (AV × VS) := match b with
  | .int j => match decide (0 < j) with
    | true => match small j with
      | true => match a with
        | .int i => some (.int (i / j), s)
        | .num c => divN S s c j
        | _ => none
      | false => none
    | false => none
  | _ => none
def modA (s : VS) (a b : AV) : Option (AV × VS) := match b with
  | .int j => match decide (0 < j) with
    | true => match a with
      | .int i => some (.int (i % j), s)
      | .any => some (.rng 0 j, s)
      | _ => none
    | false => none
  | _ => none
def powA (s : VS) (a b : AV) : Option (AV × VS) := match b with
  | .int j => match decide (0 ≤ j) with
    | true => match decide (j < 10) with
      | true => match a with
        | .int i => match small i with
          | true => some (.int (i ^ j.toNat), s)
          | false => none
        | _ => none
      | false => none
    | false => none
  | _ => none
def binA (S : Sta) (s : VS) (op : Operator) (a b : AV) : Option (AV × VS) := match op with
  | .Add => addA s a b
  | .Sub => subA s a b
  | .Mult => mulA s a b
  | .FloorDiv => divA S s a b
  | .Mod => modA s a b
  | .Pow => powA s a b
  | _ => none
def augA (op : Operator) (a b : AV) : Option AV := match a with
  | .int i => match b with
    | .int j => match op with
      | .Add => some (.int (i + j))
      | .Mult => match small j with
        | true => some (.int (i * j))
        | false => none
      | _ => none
    | _ => none
  | _ => none

def isA (a b : AV) : Option Bool := match b with
  | .none => match a with
    | .none => some true
    | .int _ => some false
    | .str _ => some false
    | .ref _ => some false
    | _ => none
  | .raw y => match y with
    | .type y => match a with
      | .raw x => match x with
        | .type x => some (seq (Str.ofString x) (Str.ofString y))
        | _ => none
      | _ => none
    | _ => none
  | _ => none
def notO (x : Option Bool) : Option Bool := match x with | some b => some (!b) | none => none
def ltA (a b : AV) : Option Bool := match a with
  | .int i => match b with | .int j => some (decide (i < j)) | _ => none
  | _ => none
def leA (S : Sta) (a b : AV) : Option Bool := match a with
  | .int i => match b with
    | .int j => some (decide (i ≤ j))
    | .num c => match decide (i + c ≤ S.lo) with
      | true => some true
      | false => match decide (S.hi ≤ i + c) with
        | true => some false
        | false => none
    | _ => none
  | _ => none
def cmpA (S : Sta) (s : VS) (op : CmpOp) (a b : AV) : Option Bool := match op with
  | .Lt => ltA a b
  | .LtE => leA S a b
  | .Gt => ltA b a
  | .GtE => leA S b a
  | .Eq => deq s a b
  | .NotEq => notO (deq s a b)
  | .Is => isA a b
  | .IsNot => notO (isA a b)
  | _ => none
def truA (a : AV) : Option Bool := match a with
  | .none => some false
  | .bool b => some b
  | _ => none

def idxA (n : Nat) (i : Int) : Option Nat := match small i with
  | true => match decide (0 ≤ i) with
    | true => some i.toNat
    | false => match decide (0 ≤ i + n) with
      | true => some (i + n).toNat
      | false => none
  | false => none
def itemO (o : Option AO) (i : Int) : Option AV := match o with
  | some (.list xs) => andThen (idxA xs.length i) (nth xs)
  | some (.tuple xs) => andThen (idxA xs.length i) (nth xs)
  | some (.dict es) => lookI i es
  | _ => none
def itemA (s : VS) (a i : AV) : Option AV := match a with
  | .ref a => match i with | .int i => itemO (s.get a) i | _ => none
  | _ => none
def cutA (n : Nat) (i : Int) : Nat := match decide (i < 0) with
  | true => (i + n).toNat
  | false => Nat.min i.toNat n
def cutO (n d : Nat) (i : Option Int) : Nat := match i with | some i => cutA n i | none => d
def sliA (s : VS) (a : AV) (lo hi : Option Int) : Option (AV × VS) :=
  andThen (listAt s a) fun xs => match few xs with
    | false => none
    | true => mkList s ((xs.take (cutO xs.length xs.length hi)).drop (cutO xs.length 0 lo))
def sliS (S : Sta) (s : VS) (a : AV) (lo hi : Option Int) : Option (AV × VS) := match a with
  | .scr => match lo with
    | none => match hi with
      | some i => match decide (i = 3) with
        | true => some (mkNew s (.list (List.replicate (Nat.min 3 S.sn) .any)))
        | false => none
      | none => none
    | some _ => none
  | _ => sliA s a lo hi
def insA (xs : List AV) (i : Int) (y : AV) : Option (List AV) := match decide (0 ≤ i) with
  | true => match decide (i.toNat ≤ xs.length) with
    | true => some (xs.take i.toNat ++ y :: xs.drop i.toNat)
    | false => none
  | false => none
def sumA : List AV → Option Int
  | [] => some 0
  | x :: r => match x with
    | .int i => andThen (sumA r) fun j => some (i + j)
    | _ => none

def edictAt (s : VS) (d : Nat) : Option Unit := match s.get d with
  | some (.edict _) => some ()
  | _ => none
def iterO (s : VS) (i : Nat) (o : Option AO) : Option (AV × VS) := match o with
  | some (.list _) => some (mkNew s (.lit i 0))
  | some (.tuple _) => some (mkNew s (.tit i 0))
  | some (.range n) => some (mkNew s (.rit 0 n.toNat))
  | some (.eitems d) => andThen (edictAt s d) fun _ => some (mkNew s (.eiter d))
  | _ => none
def iterA (s : VS) (v : AV) : Option (AV × VS) := match v with
  | .ref i => iterO s i (s.get i)
  | _ => none
def iterC (s : VS) (v : AV) : Option (AV × VS) := match v with
  | .ref i => match s.get i with
    | some (.eitems _) => none
    | _ => iterA s v
  | _ => none
def stepA (s : VS) (i : Nat) (o : AO) (x : Option AV) : Option AV × VS := match x with
  | some x => (some x, s.put i o)
  | none => (none, s.del i)
def nextO (s : VS) (i : Nat) (o : Option AO) : Option (Option AV × VS) := match o with
  | some (.lit l k) => andThen (listAt s (.ref l)) fun xs => some (stepA s i (.lit l (k + 1)) (nth xs k))
  | some (.tit l k) => andThen (tupAt s (.ref l)) fun xs => some (stepA s i (.tit l (k + 1)) (nth xs k))
  | some (.rit a n) => match n with
    | 0 => some (none, s.del i)
    | n + 1 => some (some (.int a), s.put i (.rit (a + 1) n))
  | some (.eiter d) => andThen (edictAt s d) fun _ => some (none, s.del i)
  | _ => none
def nextA (s : VS) (v : AV) : Option (Option AV × VS) := match v with
  | .ref i => nextO s i (s.get i)
  | _ => none

def zipA (s : VS) : List AV → List AV → List AV × VS
  | x :: xs, y :: ys => match zipA (s.new (.tuple [x, y])) xs ys with | (r, s') => (.ref s.nx :: r, s')
  | _, _ => ([], s)

def one (args : List AV) : Option AV := match args with
  | [x] => some x
  | _ => none
def two (args : List AV) : Option (AV × AV) := match args with
  | [x, y] => some (x, y)
  | _ => none
def lenO (o : Option AO) : Option AV := match o with
  | some (.list xs) => match few xs with
    | true => some (.int xs.length)
    | false => none
  | some (.tuple xs) => match few xs with
    | true => some (.int xs.length)
    | false => none
  | _ => none
def lenB (s : VS) (x : AV) : Option (AV × VS) := match x with
  | .ref i => give s (lenO (s.get i))
  | _ => none
def sumB (s : VS) (x : AV) : Option (AV × VS) := andThen (listAt s x) fun xs => andThen (sumA xs) fun n => some (.int n, s)
def rangeB (s : VS) (x : AV) : Option (AV × VS) := match x with
  | .int n => match small n with
    | true => some (mkNew s (.range n))
    | false => none
  | _ => none
def strB (s : VS) (x : AV) : Option (AV × VS) := match x with
  | .int n => andThen (lookI n strT) fun x => some (.str x, s)
  | _ => none
def intB (s : VS) (x : AV) : Option (AV × VS) := match x with
  | .str x => andThen (lookS x intT) fun n => some (.int n, s)
  | _ => none
def zipNew (s : VS) (i j : Nat) : AV × VS :=
  (.ref (s.nx + 4), ((((s.new (.lit i 0)).new (.lit j 0)).new (.tuple [.ref s.nx, .ref (s.nx + 1)])).new (.tuple [.none, .none])).new (.zip (s.nx + 2) (s.nx + 3)))
def zipB (s : VS) (args : List AV) : Option (AV × VS) := andThen (two args) fun p => match p.1 with
  | .ref i => match p.2 with
    | .ref j => andThen (listAt s (.ref i)) fun _ => andThen (listAt s (.ref j)) fun _ => some (zipNew s i j)
    | _ => none
  | _ => none
def litAt (s : VS) (v : AV) : Option (Nat × Nat) := match v with
  | .ref i => match s.get i with
    | some (.lit l k) => match k with | 0 => some (i, l) | _ => none
    | _ => none
  | _ => none
def apart (i j : Nat) : Option Unit := match Nat.beq i j with
  | true => none
  | false => some ()
def listZ (s : VS) (z : Nat) (to : Nat) (p q : Nat × Nat) (xs ys : List AV) : Option (AV × VS) := match few xs with
  | true => match zipA ((((s.del z).del to).del p.1).del q.1) xs ys with | (r, s') => some (mkNew s' (.list r))
  | false => none
def listO (s : VS) (z : Nat) (o : Option AO) : Option (AV × VS) := match o with
  | some (.zip ti to) => andThen (tupAt s (.ref ti)) fun us => andThen (two us) fun u => andThen (litAt s u.1) fun p => andThen (litAt s u.2) fun q =>
    andThen (tupAt s (.ref to)) fun vs => andThen (two vs) fun _ => andThen (apart p.1 q.1) fun _ => andThen (apart ti to) fun _ =>
    andThen (listAt s (.ref p.2)) fun xs => andThen (listAt s (.ref q.2)) fun ys => listZ s z to p q xs ys
  | _ => none
def listB (s : VS) (x : AV) : Option (AV × VS) := match x with
  | .ref i => listO s i (s.get i)
  | _ => none
def typeB (s : VS) (x : AV) : Option (AV × VS) := match x with
  | .str _ => some (.raw (.type "str"), s)
  | .ref _ => andThen (listAt s x) fun _ => some (.raw (.type "list"), s)
  | _ => none
inductive BI where
  | len | sum | range | str | int | zip | list | type
def biT : List (Str × BI) := [("len", .len), ("sum", .sum)]
def tyT : List (Str × BI) := [("range", .range), ("str", .str), ("int", .int), ("zip", .zip), ("list", .list), ("type", .type)]
def callI (s : VS) (f : BI) (args : List AV) : Option (AV × VS) := match f with
  | .len => andThen (one args) (lenB s)
  | .sum => andThen (one args) (sumB s)
  | .range => andThen (one args) (rangeB s)
  | .str => andThen (one args) (strB s)
  | .int => andThen (one args) (intB s)
  | .zip => zipB s args
  | .list => andThen (one args) (listB s)
  | .type => andThen (one args) (typeB s)
def isScr (vs : List AV) : Bool := match vs with
  | [x] => match x with | .scr => true | _ => false
  | _ => false
def callS (S : Sta) (s : VS) (f : BI) (args : List AV) : Option (AV × VS) := match isScr args with
  | true => match f with
    | .len => some (.int S.sn, s)
    | _ => none
  | false => callI s f args
def biOf (f : Value) : Option BI := match f with
  | .builtin id => lookS (Str.ofString id) biT
  | .type id => lookS (Str.ofString id) tyT
  | _ => none

inductive MI where
  | lower | upper | join | append | insert | items | search
def miT : List (Str × MI) := [("lower", .lower), ("upper", .upper), ("join", .join), ("append", .append), ("insert", .insert), ("items", .items), ("search", .search)]
def MI.id : MI → String
  | .lower => "str.lower"
  | .upper => "str.upper"
  | .join => "str.join"
  | .append => "list.append"
  | .insert => "list.insert"
  | .items => "dict.items"
  | .search => "re.Pattern.search"
def mStr (m : MI) : Option Unit := match m with
  | .lower => some ()
  | .upper => some ()
  | .join => some ()
  | _ => none
def mList (m : MI) : Option Unit := match m with
  | .append => some ()
  | .insert => some ()
  | _ => none
def mDict (m : MI) : Option Unit := match m with
  | .items => some ()
  | _ => none
def mPat (m : MI) : Option Unit := match m with
  | .search => some ()
  | _ => none
def memN (x : Nat) : List Nat → Bool
  | [] => false
  | y :: r => match Nat.beq x y with | true => true | false => memN x r
def mObj (o : Option AO) (m : MI) : Option Unit := match o with
  | some (.list _) => mList m
  | some (.edict _) => mDict m
  | _ => none
def mRaw (S : Sta) (v : Value) (m : MI) : Option Unit := match v with
  | .ref a => match memN a S.pats with
    | true => mPat m
    | false => none
  | _ => none
/-- the receiver has the method -/
def mHas (S : Sta) (s : VS) (o : AV) (m : MI) : Option Unit := match o with
  | .str _ => mStr m
  | .ref i => mObj (s.get i) m
  | .raw v => mRaw S v m
  | _ => none
def methS (s : VS) (x : Str) (m : MI) (args : List AV) : Option (AV × VS) := match m with
  | .lower => match args with | [] => andThen (lookS x lowT) fun y => some (.str y, s) | _ => none
  | .upper => match args with | [] => andThen (lookS x upT) fun y => some (.str y, s) | _ => none
  | .join => andThen (one args) fun l => andThen (listAt s l) fun xs => match xs with
    | [.str y] => andThen (lookS y quietT) fun _ => match seq x "; " with
      | true => some (.str y, s)
      | false => none
    | _ => none
  | _ => none
def appA (s : VS) (i : Nat) (xs : List AV) (x : AV) : Option (AV × VS) := match few xs with
  | true => some (.none, s.put i (.list (xs ++ [x])))
  | false => none
def methO (s : VS) (i : Nat) (o : Option AO) (m : MI) (args : List AV) : Option (AV × VS) := match o with
  | some (.list xs) => match m with
    | .append => andThen (one args) fun x => appA s i xs x
    | .insert => andThen (two args) fun p => match p.1 with
      | .int k => match few xs with
        | true => andThen (insA xs k p.2) fun l => some (.none, s.put i (.list l))
        | false => none
      | _ => none
    | _ => none
  | some (.edict j) => match m with
    | .items => match args with
      | [] => match Nat.beq j i with
        | true => some (mkNew s (.eitems i))
        | false => none
      | _ => none
    | _ => none
  | _ => none
def methR (S : Sta) (s : VS) (v : Value) (m : MI) (args : List AV) : Option (AV × VS) := match v with
  | .ref a => match memN a S.pats with
    | true => match m with
      | .search => andThen (one args) fun x => match x with
        | .str x => andThen (lookS x quietT) fun _ => some (.none, s)
        | _ => none
      | _ => none
    | false => none
  | _ => none
def methB (S : Sta) (s : VS) (o : AV) (m : MI) (args : List AV) : Option (AV × VS) := match o with
  | .str x => methS s x m args
  | .ref i => methO s i (s.get i) m args
  | .raw v => methR S s v m args
  | _ => none

structure Ev where
  ev : AEnv → Expr → VS → Option (AV × VS)
  tst : AEnv → Expr → VS → Option (Bool × VS)
  ex : AEnv → Stmt → VS → Option (AF × VS)
  asg : AEnv → Expr → AV → VS → Option VS
  cal : Nat → List AV → List (Str × AV) → VS → Option (AV × VS)
  fl : AEnv → Expr → AV → List Stmt → VS → Option (AF × VS)
  wl : AEnv → Expr → List Stmt → VS → Option (AF × VS)
  cl : AEnv → Expr → List Comprehension → AV → Nat → VS → Option VS

def nsAt (s : VS) (i : Nat) : Option (List (Str × AV)) := match s.fs with
  | p :: _ => match Nat.beq p.1 i with | true => some p.2 | false => none
  | [] => none
def nsPut (s : VS) (i : Nat) (m : List (Str × AV)) : VS := ⟨s.σ, s.nx, (i, m) :: s.fs.tail⟩
def cellAt (s : VS) (i : Nat) : Option (Option AV) := match s.get i with
  | some (.cell v) => some v
  | _ => none
def loadC (E : AEnv) (x : Str) (s : VS) : Option AV := andThen (lookS x E.cells) fun c => andThen (cellAt s c) fun v => v
def oddName (x : Str) : Bool := match seq x "__debug__" with | true => true | false => seq x "__classdict__"
def loadA (S : Sta) (E : AEnv) (x : Str) (s : VS) : Option AV := match oddName x with
  | true => none
  | false => andThen (lookS x E.scope.names) fun k => match k with
    | .local => andThen (nsAt s E.loc) (lookS x)
    | .cell => loadC E x s
    | .free => loadC E x s
    | .globalImplicit => lookS x S.glob
    | _ => none
def loadL (E : AEnv) (x : Str) (s : VS) : Option AV := andThen (lookS x E.scope.names) fun k => match k with
  | .local => andThen (nsAt s E.loc) (lookS x)
  | _ => none
def storeA (E : AEnv) (x : Str) (v : AV) (s : VS) : Option VS := andThen (lookS x E.scope.names) fun k => match k with
  | .local => andThen (nsAt s E.loc) fun m => some (nsPut s E.loc (setS x v m))
  | .cell => andThen (lookS x E.cells) fun c => andThen (cellAt s c) fun _ => some (s.put c (.cell (some v)))
  | _ => none

def relabelA (scope outer : Scope) : Scope :=
  { scope with names := scope.names.map fun (n, k) => if (k == .free && outer.kind == .function && outer.names.lookup n == some .cell) then (n, .cell) else (n, k) }
def cellsA : List (Str × NameKind) → VS → List (Str × Nat) → List (Str × Nat) × VS
  | [], s, acc => (acc, s)
  | p :: r, s, acc => match p.2 with
    | .cell => cellsA r (s.new (.cell none)) ((p.1, s.nx) :: acc)
    | _ => cellsA r s acc
def closA (E : AEnv) : List (Str × NameKind) → Option (List (Str × Nat))
  | [] => some []
  | p :: r => match p.2 with
    | .free => andThen (lookS p.1 E.cells) fun c => andThen (closA E r) fun l => some ((p.1, c) :: l)
    | _ => closA E r
def storesA (E : AEnv) : List (Str × AV) → VS → Option VS
  | [], s => some s
  | p :: r, s => andThen (storeA E p.1 p.2 s) (storesA E r)

def bindP : List Arg → List AV → Option (List (Str × AV))
  | [], vs => match vs with | [] => some [] | _ => none
  | p :: ps, vs => match vs with
    | [] => none
    | v :: vs => andThen (bindP ps vs) fun l => some ((p.arg, v) :: l)
def bindK (kw kwd : List (Str × AV)) (ps : List Arg) : Option (List (Str × AV)) := match ps with
  | [] => match kw with
    | [] => some []
    | _ => none
  | [p] => match kw with
    | [] => andThen (lookS p.arg kwd) fun v => some [(p.arg, v)]
    | [q] => match kwd with
      | [] => match seq p.arg q.1 with
        | true => some [(p.arg, q.2)]
        | false => none
      | _ => none
    | _ => none
  | _ => none

def litI (e : Option Expr) : Option Int := match e with
  | some (.Constant c _ _) => match c with | .int i => some i | _ => none
  | _ => none
def optI (v : Option AV) : Option (Option Int) := match v with
  | none => some none
  | some v => match v with | .int i => some (some i) | _ => none

def noStar (e : Expr) : Bool := match e with
  | .Starred _ _ => false
  | _ => true
def noSet (e : Expr) : Bool := match e with
  | .Set _ _ _ => false
  | _ => true
def noComp (e : Expr) : Bool := match e with
  | .ListComp .. => false
  | .SetComp .. => false
  | .DictComp .. => false
  | _ => true
def okTarget (e : Expr) : Bool := match e with
  | .Name _ _ => true
  | .Attribute _ _ _ => true
  | .Tuple _ _ _ => true
  | _ => false
def swapNames (E : AEnv) (ts : List Expr) : List Str := ts.filterMap fun
  | .Name id pos => if E.scope.names.lookup id == some .local && pos.line == (ts.head?.map (·.pos.line)).getD 0 then some id else none
  | _ => none
def swapA (E : AEnv) (ts vs : List Expr) : Option Bool :=
  if (!(ts.length == 2 || ts.length == 3) || vs.length != ts.length) = true then some false
  else if (vs.any fun | .Starred .. => true | _ => false) = true then some false
  else if ((swapNames E ts).length != ts.length || (swapNames E ts).eraseDups.length != (swapNames E ts).length) = true then some false
  else if (vs.all (foldedForSure 8)) = true then some false
  else if (vs.all (constantsAlone 8)) = true then none
  else some true
def storesL (E : AEnv) : List Str → List AV → VS → Option VS
  | [], vs, s => match vs with | [] => some s | _ => none
  | n :: ns, vs, s => match vs with
    | [] => none
    | v :: vs => andThen (storeA E n v s) (storesL E ns vs)
/-- the list goes to its name ahead of the comprehension's variables' end -/
def usesA (E : AEnv) (t e : Expr) (sc : Scope) : Bool := match t with
  | .Name x p => E.scope.names.lookup x == some .local && p.line == e.pos.line && !(sc.names.any fun (n, k) => n == x && (k == .local || k == .cell))
  | _ => false
def noAsync (g : Comprehension) : Bool := decide (g.is_async = 0)
def plainBase (e : Expr) : Bool := match e with
  | .Name _ _ => true
  | .Attribute _ _ _ => true
  | .Constant _ _ _ => true
  | .Subscript _ _ _ => true
  | _ => false
def okNames (l : List (Str × NameKind)) : Bool := l.all fun p => match p.2 with
  | .local => match lookS p.1 l with
    | some .local => true
    | _ => false
  | _ => true
def evsR (r : Ev) (E : AEnv) : List Expr → VS → Option (List AV × VS)
  | [], s => some ([], s)
  | e :: es, s => match noStar e with
    | true => on (r.ev E e s) fun v s => on (evsR r E es s) fun vs s => some (v :: vs, s)
    | false => none
def tstsR (r : Ev) (E : AEnv) : List Expr → VS → Option (Bool × VS)
  | [], s => some (true, s)
  | e :: es, s => on (r.tst E e s) fun c s => match c with
    | true => tstsR r E es s
    | false => some (false, s)
def asgsR (r : Ev) (E : AEnv) : List Expr → List AV → VS → Option VS
  | [], vs, s => match vs with | [] => some s | _ => none
  | t :: ts, vs, s => match noStar t with
    | true => match vs with
      | [] => none
      | v :: vs => andThen (r.asg E t v s) (asgsR r E ts vs)
    | false => none
def exsR (r : Ev) (E : AEnv) : List Stmt → VS → Option (AF × VS)
  | [], s => some (.next, s)
  | st :: ss, s => on (r.ex E st s) fun f s => match f with
    | .next => exsR r E ss s
    | _ => some (f, s)
def pairsR (r : Ev) (E : AEnv) : List (Option Expr) → List Expr → VS → Option (List (Int × AV) × VS)
  | [], [], s => some ([], s)
  | k :: ks, e :: es, s => andThen (litI k) fun i => on (r.ev E e s) fun v s => on (pairsR r E ks es s) fun l s => some ((i, v) :: l, s)
  | _, _, _ => none

section
variable (S : Sta) (r : Ev)
def evConst (c : Const) : Option AV := match c with
  | .none => some .none
  | .bool b => some (.bool b)
  | .int i => some (.int i)
  | .str x => some (.str x)
  | _ => none
def evBin (E : AEnv) (l : Expr) (op : Operator) (rr : Expr) (s : VS) : Option (AV × VS) :=
  on (r.ev E l s) fun a s => on (r.ev E rr s) fun b s => binA S s op a b
def evUn (op : UnaryOp) (e : Expr) (s : VS) : Option (AV × VS) := match op with
  | .USub => andThen (litI (some e)) fun i => some (.int (-i), s)
  | _ => none
def evIf (E : AEnv) (t a b : Expr) (s : VS) : Option (AV × VS) := on (r.tst E t s) fun c s => match c with
  | true => r.ev E a s
  | false => r.ev E b s
def evCmp (E : AEnv) (l : Expr) (ops : List CmpOp) (rs : List Expr) (s : VS) : Option (AV × VS) := match ops with
  | [op] => match rs with
    | [rr] => on (r.ev E l s) fun a s => on (r.ev E rr s) fun b s => andThen (cmpA S s op a b) fun c => some (.bool c, s)
    | _ => none
  | _ => none
def evOpt (E : AEnv) (e : Option Expr) (s : VS) : Option (Option AV × VS) := match e with
  | none => some (none, s)
  | some e => on (r.ev E e s) fun v s => some (some v, s)
def evSlice (E : AEnv) (a : AV) (lo hi step : Option Expr) (s : VS) : Option (AV × VS) := match step with
  | none => on (evOpt r E lo s) fun l s => on (evOpt r E hi s) fun h s => andThen (optI l) fun l => andThen (optI h) fun h => sliS S s a l h
  | some _ => none
def evSub (E : AEnv) (o i : Expr) (s : VS) : Option (AV × VS) := on (r.ev E o s) fun a s => match i with
  | .Slice lo hi step _ => evSlice S r E a lo hi step s
  | _ => on (r.ev E i s) fun i s => give s (itemA s a i)
def attrsAt (s : VS) (v : AV) : Option (Nat × List (Str × AV)) := match v with
  | .ref i => match s.get i with
    | some (.inst d) => match s.get d with
      | some (.attrs m) => some (d, m)
      | _ => none
    | _ => none
  | _ => none
def evAttr (E : AEnv) (o : Expr) (x : Str) (s : VS) : Option (AV × VS) := match plainBase o with
  | true => on (r.ev E o s) fun o s => andThen (attrsAt s o) fun p => andThen (lookS x p.2) fun v => match v with
    | .ref i => some (.ref i, s)
    | _ => none
  | false => none
def kwZip (kws : List Keyword) (vs : List AV) : List (Str × AV) := (kws.filterMap (·.arg)).zip vs
def evArgs (E : AEnv) (args : List Expr) (kws : List Keyword) (s : VS) : Option ((List AV × List AV) × VS) :=
  match kws.all (·.arg.isSome) with
  | true => on (evsR r E args s) fun vs s => on (evsR r E (kws.map (·.value)) s) fun ks s => some ((vs, ks), s)
  | false => none
def evMethO (E : AEnv) (o : AV) (x : Str) (args : List Expr) (kws : List Keyword) (s : VS) : Option (AV × VS) := match attrsAt s o with
  | some p => match lookS x p.2 with
    | none => andThen (lookS x S.meth) fun f => andThen (lookN f S.fn) fun _ => on (evArgs r E args kws s) fun p s => r.cal f (o :: p.1) (kwZip kws p.2) s
    | some _ => none
  | none => andThen (lookS x miT) fun m => andThen (mHas S s o m) fun _ => match kws with
    | [] => on (evsR r E args s) fun vs s => methB S s o m vs
    | _ => none
def evMeth (E : AEnv) (o : Expr) (x : Str) (args : List Expr) (kws : List Keyword) (s : VS) : Option (AV × VS) := match plainBase o with
  | true => on (r.ev E o s) fun o s => evMethO S r E o x args kws s
  | false => none
def nodupK : List (Int × AV) → Bool
  | [] => true
  | p :: r => match r.all fun q => !decide (p.1 = q.1) with
    | true => nodupK r
    | false => false
def dictA (s : VS) (i : Nat) (l : List (Int × AV)) : Option (AV × VS) := match s.get i with
  | some (.dict m) => match m with
    | [] => match nodupK l with
      | true => match Nat.ble l.length 10 with
        | true => match Nat.ble 1 l.length with
          | true => some (.ref i, s.put i (.dict l))
          | false => none
        | false => none
      | false => none
    | _ => none
  | _ => none
def evMake (vs : List AV) (s : VS) : Option (AV × VS) :=
  on (r.cal S.init (.ref (s.nx + 1) :: vs) [] ((s.new (.attrs [])).new (.inst s.nx))) fun u s' => match u with
    | .none => some (.ref (s.nx + 1), s')
    | _ => none
def evCallV (f : AV) (kws : List Keyword) (vs ks : List AV) (s : VS) : Option (AV × VS) := match f with
  | .raw v => match v with
    | .ref a => match Nat.beq a S.cls with
      | true => match kws with | [] => evMake S r vs s | _ => none
      | false => andThen (lookN a S.fn) fun _ => r.cal a vs (kwZip kws ks) s
    | _ => andThen (biOf v) fun b => match kws with | [] => callS S s b vs | _ => none
  | _ => none
def okCall (args : List Expr) (kws : List Keyword) (apos pos : Pos) : Bool := Nat.ble (args.length + kws.length) 20 && (apos.endLine == pos.line)
def evCall (E : AEnv) (f : Expr) (args : List Expr) (kws : List Keyword) (pos : Pos) (s : VS) : Option (AV × VS) := match f with
  | .Attribute o x apos => match okCall args kws apos pos with
    | true => evMeth S r E o x args kws s
    | false => none
  | .Name x _ => andThen (loadA S E x s) fun f => on (evArgs r E args kws s) fun p s => evCallV S r f kws p.1 p.2 s
  | _ => none
/-- a comprehension whose own frame stands still; the list and the frame's number -/
def evCompK (E : AEnv) (e : Expr) (gs : List Comprehension) (scope : Scope) (s : VS) : Option ((AV × Nat) × VS) := match gs with
  | [] => none
  | g :: _ => match noSet g.iter && noAsync g with
    | false => none
    | true => match okNames scope.names with
      | false => none
      | true => match scope.kind with
        | .function => on (r.ev E g.iter s) fun x s => on (iterC s x) fun it s => andThen (closA E scope.names) fun cl =>
          match cellsA scope.names (s.new (.list [])).push cl with
          | (cells, s') => andThen (r.cl ⟨relabelA scope E.scope, s.nx + 1, cells⟩ e gs it s.nx s') fun s' => andThen (nsAt s' (s.nx + 1)) fun _ => some ((.ref s.nx, s.nx + 1), s')
        | _ => none
def evComp (E : AEnv) (e : Expr) (gs : List Comprehension) (scope : Scope) (s : VS) : Option (AV × VS) := on (evCompK r E e gs scope s) fun p s => some (p.1, s.pop)
def mkEv (E : AEnv) (e : Expr) (s : VS) : Option (AV × VS) := match e with
  | .Constant c _ _ => give s (evConst c)
  | .Name x _ => give s (loadA S E x s)
  | .BinOp l op rr _ => evBin S r E l op rr s
  | .UnaryOp op e _ => evUn op e s
  | .IfExp t a b _ => evIf r E t a b s
  | .Compare l ops rs _ => evCmp S r E l ops rs s
  | .List es _ => on (evsR r E es s) fun vs s => mkList s vs
  | .Tuple es _ _ => on (evsR r E es s) fun vs s => mkTup s vs
  | .Dict ks vs _ => on (pairsR r E ks vs (s.new (.dict []))) fun l s' => dictA s' s.nx l
  | .Subscript a i _ => evSub S r E a i s
  | .Attribute o x _ => evAttr r E o x s
  | .Call f args kws pos => evCall S r E f args kws pos s
  | .ListComp _ gs scope _ => evComp r E e gs scope s
  | _ => none
def tstVal (E : AEnv) (e : Expr) (s : VS) : Option (Bool × VS) := on (r.ev E e s) fun v s => give s (truA v)
def tstAnd (E : AEnv) (op : BoolOp) (es : List Expr) (s : VS) : Option (Bool × VS) := match op with
  | .And => match es with
    | [a, b] => on (r.tst E a s) fun c s => match c with
      | true => r.tst E b s
      | false => some (false, s)
    | _ => none
  | .Or => none
def tstCmp (E : AEnv) (l : Expr) (ops : List CmpOp) (rs : List Expr) (s : VS) : Option (Bool × VS) := match ops with
  | [op] => match rs with
    | [rr] => on (r.ev E l s) fun a s => on (r.ev E rr s) fun b s => give s (cmpA S s op a b)
    | _ => none
  | _ => none
def mkTst (E : AEnv) (e : Expr) (s : VS) : Option (Bool × VS) := match e with
  | .BoolOp op es _ => tstAnd r E op es s
  | .Compare l ops rs _ => tstCmp S r E l ops rs s
  | .Constant .. => tstVal r E e s
  | .Name .. => tstVal r E e s
  | .Call .. => tstVal r E e s
  | _ => none
def mkAsg (E : AEnv) (t : Expr) (v : AV) (s : VS) : Option VS := match t with
  | .Name x _ => storeA E x v s
  | .Attribute o x _ => match seq x "_headers" with
    | true => on (r.ev E o s) fun o s => andThen (attrsAt s o) fun p => some (s.put p.1 (.attrs (setS x v p.2)))
    | false => none
  | .Tuple ts _ _ => andThen (tupAt s v) fun vs => asgsR r E ts vs s
  | _ => none
def exAsgP (E : AEnv) (t e : Expr) (s : VS) : Option (AF × VS) := on (r.ev E e s) fun v s => andThen (r.asg E t v s) fun s => some (.next, s)
def swapF (s : VS) (i : Nat) : Option VS := match s.fs with
  | a :: b :: l => match Nat.beq a.1 i with
    | true => some ⟨s.σ, s.nx, b :: a :: l⟩
    | false => none
  | _ => none
def dropF (s : VS) (i : Nat) : Option VS := match s.fs with
  | b :: a :: l => match Nat.beq a.1 i with
    | true => some ⟨s.σ, s.nx, b :: l⟩
    | false => none
  | _ => none
def exAsgU (E : AEnv) (t e : Expr) (gs : List Comprehension) (sc : Scope) (s : VS) : Option (AF × VS) := on (evCompK r E e gs sc s) fun p s => andThen (swapF s p.2) fun s => andThen (r.asg E t p.1 s) fun s => andThen (dropF s p.2) fun s => some (.next, s)
def exAsgC (E : AEnv) (t e : Expr) (gs : List Comprehension) (sc : Scope) (s : VS) : Option (AF × VS) := match usesA E t e sc with
  | true => exAsgU r E t e gs sc s
  | false => on (evComp r E e gs sc s) fun v s => andThen (r.asg E t v s) fun s => some (.next, s)
def exAsgS (E : AEnv) (ts : List Expr) (e : Expr) (s : VS) : Option (AF × VS) := on (r.ev E e s) fun v s => andThen (tupAt s v) fun xs => andThen (storesL E (swapNames E ts).reverse xs.reverse s) fun s => some (.next, s)
def exAsgT (E : AEnv) (t e : Expr) (ts vs : List Expr) (s : VS) : Option (AF × VS) := andThen (swapA E ts vs) fun b => match b with
  | true => exAsgS r E ts e s
  | false => exAsgP r E t e s
def exAsg (E : AEnv) (ts : List Expr) (e : Expr) (s : VS) : Option (AF × VS) := match ts with
  | [t] => match okTarget t with
    | true => match e with
      | .ListComp _ gs sc _ => exAsgC r E t e gs sc s
      | .Tuple vs _ _ => match t with
        | .Tuple ts _ _ => exAsgT r E t e ts vs s
        | _ => exAsgP r E t e s
      | _ => match noComp e with
        | true => exAsgP r E t e s
        | false => none
    | false => none
  | _ => none
def exAug (E : AEnv) (t : Expr) (op : Operator) (e : Expr) (s : VS) : Option (AF × VS) := match t with
  | .Name x _ => andThen (loadL E x s) fun a => on (r.ev E e s) fun b s => andThen (augA op a b) fun v => andThen (storeA E x v s) fun s => some (.next, s)
  | _ => none
def exRet (E : AEnv) (e : Option Expr) (s : VS) : Option (AF × VS) := match e with
  | some e => on (r.ev E e s) fun v s => some (.ret v, s)
  | none => none
def exIf (E : AEnv) (t : Expr) (b o : List Stmt) (s : VS) : Option (AF × VS) := on (r.tst E t s) fun c s => match c with
  | true => exsR r E b s
  | false => exsR r E o s
def exFor (E : AEnv) (t it : Expr) (b o : List Stmt) (s : VS) : Option (AF × VS) := match o with
  | [] => match noSet it with
    | true => on (r.ev E it s) fun x s => on (iterA s x) fun it s => r.fl E t it b s
    | false => none
  | _ => none
def mkEx (E : AEnv) (st : Stmt) (s : VS) : Option (AF × VS) := match st with
  | .Assign ts e _ => exAsg r E ts e s
  | .AugAssign t op e _ => exAug r E t op e s
  | .Return e _ => exRet r E e s
  | .Expr e _ => match noComp e with
    | true => on (r.ev E e s) fun v s => match v with | .none => some (.next, s) | _ => none
    | false => none
  | .If t b o _ => exIf r E t b o s
  | .Break _ => some (.brk, s)
  | .For t it b o _ => exFor r E t it b o s
  | .While t b o _ => match o with | [] => r.wl E t b s | _ => none
  | _ => none
def turnEnd (f : AF) (s : VS) (again : VS → Option (AF × VS)) : Option (AF × VS) := match f with
  | .next => again s
  | .cont => again s
  | .brk => some (.next, s)
  | .ret v => some (.ret v, s)
def mkFl (E : AEnv) (t : Expr) (it : AV) (b : List Stmt) (s : VS) : Option (AF × VS) := on (nextA s it) fun v s => match v with
  | none => some (.next, s)
  | some v => andThen (r.asg E t v s) fun s => on (exsR r E b s) fun f s => turnEnd f s (r.fl E t it b)
def mkWl (E : AEnv) (t : Expr) (b : List Stmt) (s : VS) : Option (AF × VS) := on (r.tst E t s) fun c s => match c with
  | false => some (.next, s)
  | true => on (exsR r E b s) fun f s => turnEnd f s (r.wl E t b)
def clElt (E : AEnv) (e : Expr) (acc : Nat) (s : VS) : Option VS := match e with
  | .ListComp elt _ _ _ => on (r.ev E elt s) fun v s => andThen (listAt s (.ref acc)) fun xs => on (appA s acc xs v) fun _ s => some s
  | _ => none
def clIn (E : AEnv) (e : Expr) (gs : List Comprehension) (acc : Nat) (s : VS) : Option VS := match gs with
  | [] => clElt r E e acc s
  | g :: _ => match noSet g.iter && noAsync g with
    | true => on (r.ev E g.iter s) fun x s => on (iterC s x) fun it s => r.cl E e gs it acc s
    | false => none
def mkCl (E : AEnv) (e : Expr) (gs : List Comprehension) (it : AV) (acc : Nat) (s : VS) : Option VS := match gs with
  | [] => none
  | g :: gs' => match noAsync g with
    | true => on (nextA s it) fun v s => match v with
      | none => some s
      | some v => andThen (r.asg E g.target v s) fun s => on (tstsR r E g.ifs s) fun c s => match c with
        | true => andThen (clIn r E e gs' acc s) (r.cl E e gs it acc)
        | false => r.cl E e gs it acc s
    | false => none
def kwArg (a : Option Arg) (bs : List (Str × AV)) (s : VS) : List (Str × AV) × VS := match a with
  | none => (bs, s)
  | some a => (bs ++ [(a.arg, .ref s.nx)], s.new (.edict s.nx))
def callBody (E : AEnv) (body : List Stmt) (bs : List (Str × AV)) (s : VS) : Option (AV × VS) :=
  andThen (storesA E bs s) fun s => on (exsR r E body s) fun f s => match f with
    | .ret v => some (v, s.pop)
    | .next => some (.none, s.pop)
    | _ => none
def callFn (F : Fn) (vs : List AV) (kw : List (Str × AV)) (s : VS) : Option (AV × VS) :=
  andThen (bindP F.params.args vs) fun bs => andThen (bindK kw F.kwd F.params.kwonlyargs) fun bk =>
    match kwArg F.params.kwarg (bs ++ bk) s with
    | (bs, s) => match cellsA F.scope.names s.push [] with
      | (cells, s') => callBody r ⟨F.scope, s.nx, cells⟩ F.body bs s'
def mkCal (f : Nat) (vs : List AV) (kw : List (Str × AV)) (s : VS) : Option (AV × VS) := andThen (lookN f S.fn) fun F => callFn r F vs kw s
end
def mk (S : Sta) (r : Ev) : Ev where
  ev := mkEv S r
  tst := mkTst S r
  ex := mkEx r
  asg := mkAsg r
  cal := mkCal S r
  fl := mkFl r
  wl := mkWl r
  cl := mkCl r
def run (S : Sta) : Nat → Ev
  | 0 => ⟨fun _ _ _ => none, fun _ _ _ => none, fun _ _ _ => none, fun _ _ _ _ => none, fun _ _ _ _ => none, fun _ _ _ _ _ => none, fun _ _ _ _ => none, fun _ _ _ _ _ _ => none⟩
  | n + 1 => mk S (run S n)
end
end
end Mine

namespace Mine
section
open PySem
noncomputable section
def topB : List Stmt := PySem.Challenge.pw_sn0054_01.main.body
def defIn (x : Str) : List Stmt → Option Fn
  | [] => none
  | .FunctionDef n ps b _ _ _ sc _ _ _ :: r => match seq n x with | true => some ⟨ps, b, sc, []⟩ | false => defIn x r
  | _ :: r => defIn x r
def clsIn (x : Str) : List Stmt → List Stmt
  | [] => []
  | .ClassDef n _ _ b _ _ _ _ _ _ _ :: r => match seq n x with | true => b | false => clsIn x r
  | _ :: r => clsIn x r
def fnD (x : Str) : Fn := (defIn x topB).getD ⟨default, [], default, []⟩
def fnK (x : Str) : Fn := { fnD x with kwd := [("key", .none)] }
def fnM (x : Str) : Fn := (defIn x (clsIn "Headers" topB)).getD ⟨default, [], default, []⟩
def S0 (lo hi : Int) (sn : Nat) : Sta where
  lo := lo
  hi := hi
  glob := [("Headers", .raw (.ref 182)), ("bisect_left", .raw (.ref 213)), ("bisect_right", .raw (.ref 195)), ("insort_left", .raw (.ref 204)), ("ISEOF", .raw (.ref 227)), ("ISNONTERMINAL", .raw (.ref 220)), ("_law_read", .raw (.ref 232)), ("_law_room", .raw (.ref 237)),
    ("ENDMARKER", .int 0), ("NT_OFFSET", .int 256), ("_name_disallowed_re", .raw (.ref 48)), ("_value_disallowed_re", .raw (.ref 53)),
    ("len", .raw (.builtin "len")), ("sum", .raw (.builtin "sum")), ("range", .raw (.type "range")), ("str", .raw (.type "str")), ("int", .raw (.type "int")), ("zip", .raw (.type "zip")), ("list", .raw (.type "list")), ("type", .raw (.type "type"))]
  fn := [(213, fnK "bisect_left"), (195, fnK "bisect_right"), (204, fnK "insort_left"), (227, fnD "ISEOF"), (220, fnD "ISNONTERMINAL"), (232, fnD "_law_read"), (237, fnD "_law_room"), (242, fnD "law"),
    (76, fnM "__init__"), (83, fnM "_convert_string_type"), (121, fnM "get_all"), (146, fnM "items"), (179, fnM "add_header")]
  cls := 182
  init := 76
  meth := [("_convert_string_type", 83), ("get_all", 121), ("items", 146), ("add_header", 179)]
  pats := [48, 53]
  sn := sn
def s00 : VS := ⟨(Tr.nil : Tr AO).ins (some (AO.list [])) 24 0, 1, []⟩
end
end
end Mine

namespace Mine
section
open PySem
noncomputable section
/-- the first value says no more than the second -/
def leR (l h : Int) (b : AV) : Bool := match b with
  | .int j => (match decide (l ≤ j) with | true => decide (j < h) | false => false)
  | .rng l' h' => (match decide (l ≤ l') with | true => decide (h' ≤ h) | false => false)
  | _ => false
def leV (nx : Nat) (a b : AV) : Bool := match a with
  | .int i => (match b with | .int j => decide (i = j) | _ => false)
  | .rng l h => leR l h b
  | .str x => (match b with | .str y => seq x y | _ => false)
  | .ref i => (match b with | .ref j => (match Nat.beq i j with | true => Nat.blt i nx | false => false) | _ => false)
  | .scr => (match b with | .scr => true | _ => false)
  | _ => false
def leL (nx : Nat) : List AV → List AV → Bool
  | [], ys => (match ys with | [] => true | _ => false)
  | x :: xs, ys => (match ys with | y :: ys => (match leV nx x y with | true => leL nx xs ys | false => false) | [] => false)
def leD (nx : Nat) : List (Int × AV) → List (Int × AV) → Bool
  | [], ys => (match ys with | [] => true | _ => false)
  | x :: xs, ys => (match ys with | y :: ys => (match decide (x.1 = y.1) with | true => (match leV nx x.2 y.2 with | true => leD nx xs ys | false => false) | false => false) | [] => false)
def leC (nx : Nat) (v w : Option AV) : Bool := match v with
  | none => true
  | some x => (match w with | some y => leV nx x y | none => false)
def leO (nx : Nat) (a b : AO) : Bool := match a with
  | .list xs => (match b with | .list ys => leL nx xs ys | _ => false)
  | .tuple xs => (match b with | .tuple ys => leL nx xs ys | _ => false)
  | .cell v => (match b with | .cell w => leC nx v w | _ => false)
  | .dict xs => (match b with | .dict ys => leD nx xs ys | _ => false)
  | .lit l i => (match b with | .lit l' i' => (match Nat.beq l l' with | true => (match Nat.beq i i' with | true => Nat.blt l nx | false => false) | false => false) | _ => false)
  | _ => false
def leM (nx : Nat) : List (Str × AV) → List (Str × AV) → Bool
  | [], _ => true
  | p :: r, m => (match lookS p.1 m with | some v => (match leV nx p.2 v with | true => leM nx r m | false => false) | none => false)
def leObjs (nx : Nat) (s : VS) : List (Nat × AO) → Bool
  | [] => true
  | p :: r => (match s.get p.1 with | some o => (match leO nx p.2 o with | true => leObjs nx s r | false => false) | none => false)
def leF (nx : Nat) (a b : List (Nat × List (Str × AV))) : Bool := match a with
  | [p] => (match b with
    | [q] => (match Nat.beq p.1 q.1 with | true => (match Nat.blt p.1 nx with | true => leM nx p.2 q.2 | false => false) | false => false)
    | _ => false)
  | _ => false
/-- the state says all that the written objects and frames say -/
def cutOk (objs : List (Nat × AO)) (nx : Nat) (fs : List (Nat × List (Str × AV))) (s : VS) : Bool := match Nat.ble nx s.nx with
  | true => match leF nx fs s.fs with
    | true => leObjs nx s objs
    | false => false
  | false => false
def build : List (Nat × AO) → Tr AO
  | [] => .nil
  | p :: r => (build r).ins (some p.2) (Nat.succ p.1) p.1
def canS (objs : List (Nat × AO)) (nx : Nat) (fs : List (Nat × List (Str × AV))) : VS := ⟨build objs, nx, fs⟩

def lawF : Fn := fnD "law"
def sStart : VS := ⟨.nil, 0, []⟩
def E0 : AEnv := ⟨lawF.scope, 0, (cellsA lawF.scope.names sStart.push []).1⟩
def s0 : Option VS := storesA E0 [("script", .scr)] (cellsA lawF.scope.names sStart.push []).2
def stmts (i j : Nat) : List Stmt := (lawF.body.drop i).take j
def runs (S : Sta) (b : List Stmt) (s : VS) : Option (AF × VS) := exsR (run S 200) E0 b s
def endsIn (objs : List (Nat × AO)) (nx : Nat) (fs : List (Nat × List (Str × AV))) (x : Option (AF × VS)) : Bool := match x with
  | some p => match p.1 with | .next => cutOk objs nx fs p.2 | _ => false
  | none => false
def NN : Int := 12960000
def o1 : List (Nat × AO) := [(1, .cell none), (2, .cell none), (3, .cell none), (9, .list [.rng 0 12960000, .rng 0 12960000, .rng 0 12960000])]
def f1 : List (Nat × List (Str × AV)) := [(0, [("numbers", .ref 9)])]
def o2 : List (Nat × AO) := [(2, .cell none), (3, .cell none), (1, .cell (some (.ref 11))), (9, .list [.rng 0 12960000, .rng 0 12960000, .rng 0 12960000]), (11, .dict [(0, .ref 12), (255, .ref 13), (256, .ref 14)]), (12, .tuple [.str "ab", .str "AB"]), (13, .tuple [.str "a", .str "A"]), (14, .tuple [.str "b", .str "B"]), (101, .list [.ref 106, .ref 110, .ref 114, .ref 120, .ref 121, .ref 122, .ref 128, .ref 129, .ref 130, .ref 134, .ref 140, .ref 141, .ref 142, .ref 148, .ref 149, .ref 150, .ref 154, .ref 158, .ref 164, .ref 165, .ref 166, .ref 172, .ref 173, .ref 174, .ref 178, .ref 184, .ref 185, .ref 186, .ref 192, .ref 193, .ref 194]), (196, .list [.int 4320000, .int 1440000, .int 360000, .int 144000, .int 432000, .int 144000, .int 120000, .int 120000, .int 120000, .int 480000, .int 120000, .int 120000, .int 240000, .int 120000, .int 120000, .int 240000, .int 1440000, .int 480000, .int 120000, .int 240000, .int 120000, .int 120000, .int 240000, .int 120000, .int 360000, .int 120000, .int 120000, .int 120000, .int 144000, .int 144000, .int 432000]), (106, .list [.int 0, .int 0]), (110, .list [.int 0, .int 255, .int 0]), (114, .list [.int 0, .int 255, .int 255, .int 0]), (120, .list [.int 0, .int 255, .int 255, .int 255, .int 0]), (121, .list [.int 0, .int 255, .int 255, .int 255, .int 255]), (122, .list [.int 0, .int 255, .int 255, .int 255, .int 256]), (128, .list [.int 0, .int 255, .int 255, .int 256, .int 0]), (129, .list [.int 0, .int 255, .int 255, .int 256, .int 255]), (130, .list [.int 0, .int 255, .int 255, .int 256, .int 256]), (134, .list [.int 0, .int 255, .int 256, .int 0]), (140, .list [.int 0, .int 255, .int 256, .int 255, .int 0]), (141, .list [.int 0, .int 255, .int 256, .int 255, .int 255]), (142, .list [.int 0, .int 255, .int 256, .int 255, .int 256]), (148, .list [.int 0, .int 255, .int 256, .int 256, .int 0]), (149, .list [.int 0, .int 255, .int 256, .int 256, .int 255]), (150, .list [.int 0, .int 255, .int 256, .int 256, .int 256]), (154, .list [.int 0, .int 256, .int 0]), (158, .list [.int 0, .int 256, .int 255, .int 0]), (164, .list [.int 0, .int 256, .int 255, .int 255, .int 0]), (165, .list [.int 0, .int 256, .int 255, .int 255, .int 255]), (166, .list [.int 0, .int 256, .int 255, .int 255, .int 256]), (172, .list [.int 0, .int 256, .int 255, .int 256, .int 0]), (173, .list [.int 0, .int 256, .int 255, .int 256, .int 255]), (174, .list [.int 0, .int 256, .int 255, .int 256, .int 256]), (178, .list [.int 0, .int 256, .int 256, .int 0]), (184, .list [.int 0, .int 256, .int 256, .int 255, .int 0]), (185, .list [.int 0, .int 256, .int 256, .int 255, .int 255]), (186, .list [.int 0, .int 256, .int 256, .int 255, .int 256]), (192, .list [.int 0, .int 256, .int 256, .int 256, .int 0]), (193, .list [.int 0, .int 256, .int 256, .int 256, .int 255]), (194, .list [.int 0, .int 256, .int 256, .int 256, .int 256])]
def f2 : List (Nat × List (Str × AV)) := [(0, [("numbers", .ref 9), ("rows", .ref 101), ("rooms", .ref 196)])]
def c1 : VS := canS o1 11 f1
def c2 : VS := canS o2 198 f2
/-- ahead of a turn of the law's own loop -/
def cL (p : Nat) : VS := canS ((198, .lit 9 p) :: o2) 199 f2
def step1 (n : Nat) : Bool := match s0 with
  | some s => endsIn o1 11 f1 (runs (S0 0 1 n) (stmts 0 1) s)
  | none => false
def steps1 : Nat → Bool
  | 0 => step1 0
  | n + 1 => match step1 (n + 1) with | true => steps1 n | false => false
def step2 (n : Nat) : Bool := endsIn o2 198 f2 (runs (S0 0 1 n) (stmts 1 4) c1)
def forT : Stmt → Expr
  | .For t _ _ _ _ => t
  | _ => default
def forB : Stmt → List Stmt
  | .For _ _ b _ _ => b
  | _ => []
def forI : Stmt → Expr
  | .For _ i _ _ _ => i
  | _ => default
def forP : Stmt → Pos
  | .For _ _ _ _ p => p
  | _ => default
def theFor : Stmt := (stmts 5 1).headD default
def turn (lo hi : Int) (n p : Nat) : Option AO := match (run (S0 lo hi n) 200).asg E0 (forT theFor) (.num 0) (cL p) with
  | some s => match runs (S0 lo hi n) (forB theFor) s with
    | some q => match q.1 with
      | .next => match cutOk o2 199 f2 q.2 with
        | true => q.2.get 198
        | false => none
      | _ => none
    | none => none
  | none => none
end
end
end Mine

namespace Mine
section
open PySem
set_option maxRecDepth 100000
theorem steps1_ok : steps1 63 = true := by kernel_rfl
theorem step2_ok (n : Nat) : step2 n = true := by kernel_rfl

theorem theFor_eq : theFor = .For (forT theFor) (forI theFor) (forB theFor) [] (forP theFor) := by kernel_rfl
theorem body_eq : lawF.body = stmts 0 1 ++ (stmts 1 4 ++ (theFor :: stmts 6 1)) := by kernel_rfl
theorem iter_ev (n : Nat) : (run (S0 0 1 n) 200).ev E0 (forI theFor) c2 = some (.ref 9, c2) := by kernel_rfl
theorem iter_it : iterA c2 (.ref 9) = some (.ref 198, cL 0) := by kernel_rfl
theorem next_0 : nextA (cL 0) (.ref 198) = some (some (.rng 0 12960000), cL 1) := by kernel_rfl
theorem next_1 : nextA (cL 1) (.ref 198) = some (some (.rng 0 12960000), cL 2) := by kernel_rfl
theorem next_2 : nextA (cL 2) (.ref 198) = some (some (.rng 0 12960000), cL 3) := by kernel_rfl
theorem next_3 : nextA (cL 3) (.ref 198) = some (none, (cL 3).del 198) := by kernel_rfl
theorem ret_ok (n : Nat) : runs (S0 0 1 n) (stmts 6 1) ((cL 3).del 198) = some (.ret (.bool true), (cL 3).del 198) := by kernel_rfl
theorem cutL (p : Nat) : cutOk o2 199 f2 (cL p) = true := by kernel_rfl
theorem getL (p : Nat) : (cL p).get 198 = some (.lit 9 p) := by kernel_rfl
theorem bindL : bindP lawF.params.args [.scr] = some [((PySem.Str.ofString "script" : Str), AV.scr)] := by kernel_rfl
theorem bindKL : bindK [] lawF.kwd lawF.params.kwonlyargs = some [] := by kernel_rfl
theorem kwL : lawF.params.kwarg = none := by kernel_rfl
theorem kindL : lawF.scope.kind = .function := by kernel_rfl
theorem lawAt (lo hi : Int) (n : Nat) : lookN 242 (S0 lo hi n).fn = some lawF := by kernel_rfl
end
end Mine

namespace Mine
section
open PySem
set_option maxRecDepth 100000
theorem turn_0 (n p : Nat) : turn 0 4320000 n p = some (.lit 9 p) := by kernel_rfl
theorem turn_1 (n p : Nat) : turn 4320000 5760000 n p = some (.lit 9 p) := by kernel_rfl
theorem turn_2 (n p : Nat) : turn 5760000 6120000 n p = some (.lit 9 p) := by kernel_rfl
theorem turn_3 (n p : Nat) : turn 6120000 6264000 n p = some (.lit 9 p) := by kernel_rfl
theorem turn_4 (n p : Nat) : turn 6264000 6408000 n p = some (.lit 9 p) := by kernel_rfl
theorem turn_5 (n p : Nat) : turn 6408000 6480000 n p = some (.lit 9 p) := by kernel_rfl
theorem turn_6 (n p : Nat) : turn 6480000 6552000 n p = some (.lit 9 p) := by kernel_rfl
theorem turn_7 (n p : Nat) : turn 6552000 6696000 n p = some (.lit 9 p) := by kernel_rfl
theorem turn_8 (n p : Nat) : turn 6696000 6840000 n p = some (.lit 9 p) := by kernel_rfl
theorem turn_9 (n p : Nat) : turn 6840000 6960000 n p = some (.lit 9 p) := by kernel_rfl
theorem turn_10 (n p : Nat) : turn 6960000 7080000 n p = some (.lit 9 p) := by kernel_rfl
theorem turn_11 (n p : Nat) : turn 7080000 7200000 n p = some (.lit 9 p) := by kernel_rfl
theorem turn_12 (n p : Nat) : turn 7200000 7680000 n p = some (.lit 9 p) := by kernel_rfl
theorem turn_13 (n p : Nat) : turn 7680000 7800000 n p = some (.lit 9 p) := by kernel_rfl
theorem turn_14 (n p : Nat) : turn 7800000 7920000 n p = some (.lit 9 p) := by kernel_rfl
theorem turn_15 (n p : Nat) : turn 7920000 8040000 n p = some (.lit 9 p) := by kernel_rfl
theorem turn_16 (n p : Nat) : turn 8040000 8160000 n p = some (.lit 9 p) := by kernel_rfl
theorem turn_17 (n p : Nat) : turn 8160000 8280000 n p = some (.lit 9 p) := by kernel_rfl
theorem turn_18 (n p : Nat) : turn 8280000 8400000 n p = some (.lit 9 p) := by kernel_rfl
theorem turn_19 (n p : Nat) : turn 8400000 8520000 n p = some (.lit 9 p) := by kernel_rfl
theorem turn_20 (n p : Nat) : turn 8520000 8640000 n p = some (.lit 9 p) := by kernel_rfl
theorem turn_21 (n p : Nat) : turn 8640000 10080000 n p = some (.lit 9 p) := by kernel_rfl
theorem turn_22 (n p : Nat) : turn 10080000 10560000 n p = some (.lit 9 p) := by kernel_rfl
theorem turn_23 (n p : Nat) : turn 10560000 10680000 n p = some (.lit 9 p) := by kernel_rfl
theorem turn_24 (n p : Nat) : turn 10680000 10800000 n p = some (.lit 9 p) := by kernel_rfl
theorem turn_25 (n p : Nat) : turn 10800000 10920000 n p = some (.lit 9 p) := by kernel_rfl
theorem turn_26 (n p : Nat) : turn 10920000 11040000 n p = some (.lit 9 p) := by kernel_rfl
theorem turn_27 (n p : Nat) : turn 11040000 11160000 n p = some (.lit 9 p) := by kernel_rfl
theorem turn_28 (n p : Nat) : turn 11160000 11280000 n p = some (.lit 9 p) := by kernel_rfl
theorem turn_29 (n p : Nat) : turn 11280000 11400000 n p = some (.lit 9 p) := by kernel_rfl
theorem turn_30 (n p : Nat) : turn 11400000 11520000 n p = some (.lit 9 p) := by kernel_rfl
theorem turn_31 (n p : Nat) : turn 11520000 11880000 n p = some (.lit 9 p) := by kernel_rfl
theorem turn_32 (n p : Nat) : turn 11880000 12000000 n p = some (.lit 9 p) := by kernel_rfl
theorem turn_33 (n p : Nat) : turn 12000000 12120000 n p = some (.lit 9 p) := by kernel_rfl
theorem turn_34 (n p : Nat) : turn 12120000 12240000 n p = some (.lit 9 p) := by kernel_rfl
theorem turn_35 (n p : Nat) : turn 12240000 12384000 n p = some (.lit 9 p) := by kernel_rfl
theorem turn_36 (n p : Nat) : turn 12384000 12528000 n p = some (.lit 9 p) := by kernel_rfl
theorem turn_37 (n p : Nat) : turn 12528000 12600000 n p = some (.lit 9 p) := by kernel_rfl
theorem turn_38 (n p : Nat) : turn 12600000 12672000 n p = some (.lit 9 p) := by kernel_rfl
theorem turn_39 (n p : Nat) : turn 12672000 12816000 n p = some (.lit 9 p) := by kernel_rfl
theorem turn_40 (n p : Nat) : turn 12816000 12960000 n p = some (.lit 9 p) := by kernel_rfl
theorem pick (i : Int) (h0 : 0 ≤ i) (h1 : i < 12960000) : ∃ lo hi : Int, lo ≤ i ∧ i < hi ∧ ∀ n p, turn lo hi n p = some (.lit 9 p) := by
  by_cases g0 : i < 4320000
  · exact ⟨0, 4320000, by omega, g0, turn_0⟩
  by_cases g1 : i < 5760000
  · exact ⟨4320000, 5760000, by omega, g1, turn_1⟩
  by_cases g2 : i < 6120000
  · exact ⟨5760000, 6120000, by omega, g2, turn_2⟩
  by_cases g3 : i < 6264000
  · exact ⟨6120000, 6264000, by omega, g3, turn_3⟩
  by_cases g4 : i < 6408000
  · exact ⟨6264000, 6408000, by omega, g4, turn_4⟩
  by_cases g5 : i < 6480000
  · exact ⟨6408000, 6480000, by omega, g5, turn_5⟩
  by_cases g6 : i < 6552000
  · exact ⟨6480000, 6552000, by omega, g6, turn_6⟩
  by_cases g7 : i < 6696000
  · exact ⟨6552000, 6696000, by omega, g7, turn_7⟩
  by_cases g8 : i < 6840000
  · exact ⟨6696000, 6840000, by omega, g8, turn_8⟩
  by_cases g9 : i < 6960000
  · exact ⟨6840000, 6960000, by omega, g9, turn_9⟩
  by_cases g10 : i < 7080000
  · exact ⟨6960000, 7080000, by omega, g10, turn_10⟩
  by_cases g11 : i < 7200000
  · exact ⟨7080000, 7200000, by omega, g11, turn_11⟩
  by_cases g12 : i < 7680000
  · exact ⟨7200000, 7680000, by omega, g12, turn_12⟩
  by_cases g13 : i < 7800000
  · exact ⟨7680000, 7800000, by omega, g13, turn_13⟩
  by_cases g14 : i < 7920000
  · exact ⟨7800000, 7920000, by omega, g14, turn_14⟩
  by_cases g15 : i < 8040000
  · exact ⟨7920000, 8040000, by omega, g15, turn_15⟩
  by_cases g16 : i < 8160000
  · exact ⟨8040000, 8160000, by omega, g16, turn_16⟩
  by_cases g17 : i < 8280000
  · exact ⟨8160000, 8280000, by omega, g17, turn_17⟩
  by_cases g18 : i < 8400000
  · exact ⟨8280000, 8400000, by omega, g18, turn_18⟩
  by_cases g19 : i < 8520000
  · exact ⟨8400000, 8520000, by omega, g19, turn_19⟩
  by_cases g20 : i < 8640000
  · exact ⟨8520000, 8640000, by omega, g20, turn_20⟩
  by_cases g21 : i < 10080000
  · exact ⟨8640000, 10080000, by omega, g21, turn_21⟩
  by_cases g22 : i < 10560000
  · exact ⟨10080000, 10560000, by omega, g22, turn_22⟩
  by_cases g23 : i < 10680000
  · exact ⟨10560000, 10680000, by omega, g23, turn_23⟩
  by_cases g24 : i < 10800000
  · exact ⟨10680000, 10800000, by omega, g24, turn_24⟩
  by_cases g25 : i < 10920000
  · exact ⟨10800000, 10920000, by omega, g25, turn_25⟩
  by_cases g26 : i < 11040000
  · exact ⟨10920000, 11040000, by omega, g26, turn_26⟩
  by_cases g27 : i < 11160000
  · exact ⟨11040000, 11160000, by omega, g27, turn_27⟩
  by_cases g28 : i < 11280000
  · exact ⟨11160000, 11280000, by omega, g28, turn_28⟩
  by_cases g29 : i < 11400000
  · exact ⟨11280000, 11400000, by omega, g29, turn_29⟩
  by_cases g30 : i < 11520000
  · exact ⟨11400000, 11520000, by omega, g30, turn_30⟩
  by_cases g31 : i < 11880000
  · exact ⟨11520000, 11880000, by omega, g31, turn_31⟩
  by_cases g32 : i < 12000000
  · exact ⟨11880000, 12000000, by omega, g32, turn_32⟩
  by_cases g33 : i < 12120000
  · exact ⟨12000000, 12120000, by omega, g33, turn_33⟩
  by_cases g34 : i < 12240000
  · exact ⟨12120000, 12240000, by omega, g34, turn_34⟩
  by_cases g35 : i < 12384000
  · exact ⟨12240000, 12384000, by omega, g35, turn_35⟩
  by_cases g36 : i < 12528000
  · exact ⟨12384000, 12528000, by omega, g36, turn_36⟩
  by_cases g37 : i < 12600000
  · exact ⟨12528000, 12600000, by omega, g37, turn_37⟩
  by_cases g38 : i < 12672000
  · exact ⟨12600000, 12672000, by omega, g38, turn_38⟩
  by_cases g39 : i < 12816000
  · exact ⟨12672000, 12816000, by omega, g39, turn_39⟩
  by_cases g40 : i < 12960000
  · exact ⟨12816000, 12960000, by omega, g40, turn_40⟩
  exact absurd h1 (by omega)
end
end Mine

namespace Mine
section
open PySem PySem.W PyProof.Rows PySem.Calls

/-! the trie -/
theorem Tr.get_nil {α : Type} (i : Nat) : (Tr.nil : Tr α).get i = none := rfl
theorem Tr.get_node {α : Type} (v : Option α) (l r : Tr α) (i : Nat) : (Tr.node v l r).get i = if i = 0 then v else if i % 2 = 1 then l.get (i / 2) else r.get (i / 2 - 1) := by
  show @Bool.rec (fun _ => Option α) (@Bool.rec (fun _ => Option α) (r.get (Nat.pred (Nat.div i 2))) (l.get (Nat.div i 2)) (Nat.beq (Nat.mod i 2) 1)) v (Nat.beq i 0) = _
  cases h : Nat.beq i 0 with
  | true => have := Nat.eq_of_beq_eq_true h; subst this; rfl
  | false =>
    have h0 : i ≠ 0 := Nat.ne_of_beq_eq_false h
    rw [if_neg h0]
    cases h1 : Nat.beq (Nat.mod i 2) 1 with
    | true => have h1' : i % 2 = 1 := Nat.eq_of_beq_eq_true h1; rw [if_pos h1']; rfl
    | false => have h1' : ¬ i % 2 = 1 := Nat.ne_of_beq_eq_false h1; rw [if_neg h1']; rfl
theorem Tr.ins_nil {α : Type} (x : Option α) (n i : Nat) : Tr.ins x (n + 1) .nil i = if i = 0 then .node x .nil .nil else if i % 2 = 1 then .node none (Tr.ins x n .nil (i / 2)) .nil else .node none .nil (Tr.ins x n .nil (i / 2 - 1)) := by
  show @Bool.rec (fun _ => Tr α) (@Bool.rec (fun _ => Tr α) (.node none .nil (Tr.ins x n .nil (Nat.pred (Nat.div i 2)))) (.node none (Tr.ins x n .nil (Nat.div i 2)) .nil) (Nat.beq (Nat.mod i 2) 1)) (.node x .nil .nil) (Nat.beq i 0) = _
  cases h : Nat.beq i 0 with
  | true => have := Nat.eq_of_beq_eq_true h; subst this; rfl
  | false =>
    have h0 : i ≠ 0 := Nat.ne_of_beq_eq_false h
    rw [if_neg h0]
    cases h1 : Nat.beq (Nat.mod i 2) 1 with
    | true => have h1' : i % 2 = 1 := Nat.eq_of_beq_eq_true h1; rw [if_pos h1']; rfl
    | false => have h1' : ¬ i % 2 = 1 := Nat.ne_of_beq_eq_false h1; rw [if_neg h1']; rfl
theorem Tr.ins_node {α : Type} (x : Option α) (n i : Nat) (v : Option α) (l r : Tr α) : Tr.ins x (n + 1) (.node v l r) i = if i = 0 then .node x l r else if i % 2 = 1 then .node v (Tr.ins x n l (i / 2)) r else .node v l (Tr.ins x n r (i / 2 - 1)) := by
  show @Bool.rec (fun _ => Tr α) (@Bool.rec (fun _ => Tr α) (.node v l (Tr.ins x n r (Nat.pred (Nat.div i 2)))) (.node v (Tr.ins x n l (Nat.div i 2)) r) (Nat.beq (Nat.mod i 2) 1)) (.node x l r) (Nat.beq i 0) = _
  cases h : Nat.beq i 0 with
  | true => have := Nat.eq_of_beq_eq_true h; subst this; rfl
  | false =>
    have h0 : i ≠ 0 := Nat.ne_of_beq_eq_false h
    rw [if_neg h0]
    cases h1 : Nat.beq (Nat.mod i 2) 1 with
    | true => have h1' : i % 2 = 1 := Nat.eq_of_beq_eq_true h1; rw [if_pos h1']; rfl
    | false => have h1' : ¬ i % 2 = 1 := Nat.ne_of_beq_eq_false h1; rw [if_neg h1']; rfl
theorem Tr.get_ins {α : Type} (x : Option α) : ∀ (n : Nat) (t : Tr α) (i j : Nat), i < n → (Tr.ins x n t i).get j = if j = i then x else t.get j
  | 0, _, _, _, h => absurd h (Nat.not_lt_zero _)
  | n + 1, t, i, j, h => by
    have ih := fun t a b (q : a < n) => Tr.get_ins x n t a b q
    cases t with
    | nil =>
      rw [Tr.ins_nil]
      by_cases h0 : i = 0
      · subst h0; rw [if_pos rfl, Tr.get_node]; by_cases hj : j = 0 <;> simp [hj, Tr.get_nil]
      · rw [if_neg h0]
        by_cases h1 : i % 2 = 1
        · rw [if_pos h1, Tr.get_node, ih _ _ _ (by omega)]
          by_cases hj : j = 0
          · subst hj; simp [Ne.symm h0, Tr.get_nil]
          · by_cases hj1 : j % 2 = 1
            · by_cases e : j = i
              · subst e; simp [hj, hj1]
              · have : ¬ j / 2 = i / 2 := by omega
                simp [hj, hj1, this, e, Tr.get_nil]
            · have : ¬ j = i := by omega
              simp [hj, hj1, this, Tr.get_nil]
        · rw [if_neg h1, Tr.get_node, ih _ _ _ (by omega)]
          by_cases hj : j = 0
          · subst hj; simp [Ne.symm h0, Tr.get_nil]
          · by_cases hj1 : j % 2 = 1
            · have : ¬ j = i := by omega
              simp [hj, hj1, this, Tr.get_nil]
            · by_cases e : j = i
              · subst e; simp [hj, hj1]
              · have : ¬ j / 2 - 1 = i / 2 - 1 := by omega
                simp [hj, hj1, this, e, Tr.get_nil]
    | node v l r =>
      rw [Tr.ins_node]
      by_cases h0 : i = 0
      · subst h0; rw [if_pos rfl, Tr.get_node, Tr.get_node]; by_cases hj : j = 0 <;> simp [hj]
      · rw [if_neg h0]
        by_cases h1 : i % 2 = 1
        · rw [if_pos h1, Tr.get_node, ih _ _ _ (by omega), Tr.get_node]
          by_cases hj : j = 0
          · subst hj; simp [Ne.symm h0]
          · by_cases hj1 : j % 2 = 1
            · by_cases e : j = i
              · subst e; simp [hj, hj1]
              · have : ¬ j / 2 = i / 2 := by omega
                simp [hj, hj1, this, e]
            · have : ¬ j = i := by omega
              simp [hj, hj1, this]
        · rw [if_neg h1, Tr.get_node, ih _ _ _ (by omega), Tr.get_node]
          by_cases hj : j = 0
          · subst hj; simp [Ne.symm h0]
          · by_cases hj1 : j % 2 = 1
            · have : ¬ j = i := by omega
              simp [hj, hj1, this]
            · by_cases e : j = i
              · subst e; simp [hj, hj1]
              · have : ¬ j / 2 - 1 = i / 2 - 1 := by omega
                simp [hj, hj1, this, e]
theorem VS.get_put (s : VS) (i j : Nat) (o : AO) : (s.put i o).get j = if j = i then some o else s.get j := Tr.get_ins (some o) _ _ _ _ (Nat.lt_succ_self i)
theorem VS.get_del (s : VS) (i j : Nat) : (s.del i).get j = if j = i then none else s.get j := Tr.get_ins none _ _ _ _ (Nat.lt_succ_self i)
theorem VS.get_new (s : VS) (j : Nat) (o : AO) : (s.new o).get j = if j = s.nx then some o else s.get j := Tr.get_ins (some o) _ _ _ _ (Nat.lt_succ_self _)

/-! names -/
theorem leq_iff : ∀ {x y : List Nat}, leq x y = true ↔ x = y
  | [], [] => by simp [leq]
  | [], _ :: _ => by simp [leq]
  | _ :: _, [] => by simp [leq]
  | a :: x, b :: y => by
    unfold leq
    cases h : Nat.beq a b with
    | true => have := Nat.eq_of_beq_eq_true h; subst this; simp [leq_iff]
    | false => have := Nat.ne_of_beq_eq_false h; simp [this]
theorem seq_iff {a b : Str} : seq a b = true ↔ a = b := by
  unfold seq
  cases h : Nat.beq (code a) (code b) with
  | true =>
    show leq a.cps.toList b.cps.toList = true ↔ _
    rw [leq_iff]
    constructor
    · intro h; cases a; cases b; simp only [Str.mk.injEq]; exact Array.toList_inj.mp h
    · rintro rfl; rfl
  | false =>
    constructor
    · intro h; cases h
    · rintro rfl; exact absurd rfl (Nat.ne_of_beq_eq_false h)
theorem seq_false {a b : Str} : seq a b = false ↔ a ≠ b := by
  rw [← Bool.not_eq_true, seq_iff]
theorem seq_eq (a b : Str) : seq a b = (a == b) := by
  by_cases h : a = b
  · rw [seq_iff.mpr h]; exact (beq_iff_eq.mpr h).symm
  · rw [seq_false.mpr h]; exact (beq_eq_false_iff_ne.mpr h).symm
theorem lookS_nil {β : Type} (x : Str) : lookS x ([] : List (Str × β)) = none := rfl
theorem lookS_cons {β : Type} (x : Str) (p : Str × β) (r : List (Str × β)) : lookS x (p :: r) = if x = p.1 then some p.2 else lookS x r := by
  show @Bool.rec (fun _ => Option β) (lookS x r) (some p.2) (seq x p.1) = _
  by_cases h : x = p.1
  · rw [if_pos h, seq_iff.mpr h]
  · rw [if_neg h, seq_false.mpr h]
theorem lookS_eq {β : Type} (x : Str) : ∀ l : List (Str × β), lookS x l = l.lookup x
  | [] => rfl
  | (y, b) :: r => by
    rw [lookS_cons, List.lookup_cons, lookS_eq x r]
    by_cases h : x = y
    · subst h; simp
    · have q : (x == y) = false := beq_eq_false_iff_ne.mpr h
      simp [h, q]
theorem lookS_mem {β : Type} {x : Str} {b : β} : ∀ {l : List (Str × β)}, lookS x l = some b → (x, b) ∈ l
  | [], h => by cases h
  | (y, c) :: r, h => by
    rw [lookS_cons] at h
    by_cases e : x = y
    · subst e; simp at h; subst h; exact .head _
    · simp [e] at h; exact .tail _ (lookS_mem h)
theorem lookS_setS {β : Type} (x y : Str) (v : β) : ∀ l : List (Str × β), lookS y (setS x v l) = if y = x then some v else lookS y l
  | [] => by
    show lookS y [(x, v)] = _
    rw [lookS_cons]
  | p :: r => by
    show lookS y (@Bool.rec (fun _ => List (Str × β)) (p :: setS x v r) ((x, v) :: r) (seq x p.1)) = _
    have ih := lookS_setS x y v r
    by_cases h : x = p.1
    · rw [seq_iff.mpr h]
      show lookS y ((x, v) :: r) = _
      rw [lookS_cons, lookS_cons]
      by_cases e : y = x
      · simp [e]
      · have : ¬ y = p.1 := fun q => e (q.trans h.symm)
        simp [e, this]
    · rw [seq_false.mpr h]
      show lookS y (p :: setS x v r) = _
      rw [lookS_cons, ih, lookS_cons]
      by_cases e : y = p.1
      · have : ¬ y = x := fun q => h (q.symm.trans e)
        simp [e, this, Ne.symm h]
      · simp [e]
theorem lookN_mem {β : Type} {x : Nat} {b : β} : ∀ {l : List (Nat × β)}, lookN x l = some b → (x, b) ∈ l
  | [], h => by cases h
  | (y, c) :: r, h => by
    unfold lookN at h
    cases q : Nat.beq x y with
    | true => have := Nat.eq_of_beq_eq_true q; subst this; simp [q] at h; subst h; exact .head _
    | false => simp [q] at h; exact .tail _ (lookN_mem h)
theorem lookI_mem {β : Type} {x : Int} {b : β} : ∀ {l : List (Int × β)}, lookI x l = some b → (x, b) ∈ l
  | [], h => by cases h
  | (y, c) :: r, h => by
    unfold lookI at h
    by_cases q : x = y
    · subst q; simp at h; subst h; exact .head _
    · simp [q] at h; exact .tail _ (lookI_mem h)
theorem nth_eq {α : Type} : ∀ (l : List α) (n : Nat), nth l n = l[n]?
  | [], _ => by simp [nth]
  | _ :: _, 0 => by simp [nth]
  | _ :: r, n + 1 => by simp [nth, nth_eq r n]
theorem on_some {α β γ : Type} {x : Option (α × β)} {f : α → β → Option γ} {c : γ} (h : on x f = some c) : ∃ a b, x = some (a, b) ∧ f a b = some c := by
  cases x with
  | none => cases h
  | some p => exact ⟨p.1, p.2, rfl, h⟩
theorem andThen_some {α β : Type} {x : Option α} {f : α → Option β} {c : β} (h : andThen x f = some c) : ∃ a, x = some a ∧ f a = some c := by
  cases x with
  | none => cases h
  | some a => exact ⟨a, rfl, h⟩
theorem give_some {α : Type} {s s' : VS} {x : Option α} {a : α} (h : give s x = some (a, s')) : x = some a ∧ s' = s := by
  cases x with
  | none => cases h
  | some b => cases h; exact ⟨rfl, rfl⟩
end
end Mine

namespace Mine
section
open PySem PySem.W PyProof.Rows PySem.Calls

/-- what stands fixed during the call: the number, the tables, the state at the call's start -/
structure Cx where
  prog : Program
  w : World
  X : Int
  S : Sta
  s₁ : Shared
  sa : Addr
variable {C : Cx}
abbrev Cx.h₀ (C : Cx) : Heap := C.s₁.heap

/-- a value bears an abstract one; ρ: where the numbered objects lie -/
def VRel (C : Cx) (ρ : List Addr) : AV → Value → Prop
  | .none, v => v = .none
  | .bool b, v => v = .bool b
  | .int i, v => ∃ t, v = .int i t
  | .any, v => ∃ i t, v = .int i t
  | .rng lo hi, v => ∃ i t, v = .int i t ∧ lo ≤ i ∧ i < hi
  | .num c, v => ∃ t, v = .int (C.X - c) t
  | .str x, v => ∃ t, v = .str x t
  | .ref i, v => ∃ a, ρ[i]? = some a ∧ v = .ref a
  | .raw w, v => v = w
  | .scr, v => v = .ref C.sa
inductive AllV (C : Cx) (ρ : List Addr) : List AV → List Value → Prop where
  | nil : AllV C ρ [] []
  | cons {x v xs vs} : VRel C ρ x v → AllV C ρ xs vs → AllV C ρ (x :: xs) (v :: vs)
def OptV (C : Cx) (ρ : List Addr) : Option AV → Option Value → Prop
  | none, _ => True
  | some x, v => ∃ w, v = some w ∧ VRel C ρ x w
/-- a namespace bears a map: what the map knows stands there -/
def MapV (C : Cx) (ρ : List Addr) (m : List (Str × AV)) (mm : Str → Option Value) : Prop := ∀ x v, lookS x m = some v → ∃ w, mm x = some w ∧ VRel C ρ v w
def NsO (o : Obj) (mm : Str → Option Value) : Prop := ∃ es ep, o.data = .dict es ep ∧ StrKeys es ∧ UniqKeys es ∧ ∀ name, nsFind es name = mm name
def seqO (c : String) (vs : List Value) (n : Nat) : Obj := { cls := .type c, data := .seq vs.toArray n }
inductive PairV (C : Cx) (ρ : List Addr) : List (Int × AV) → List (Int × Value) → Prop where
  | nil : PairV C ρ [] []
  | cons {k x v xs vs} : VRel C ρ x v → PairV C ρ xs vs → PairV C ρ ((k, x) :: xs) ((k, v) :: vs)
def ORel (C : Cx) (ρ : List Addr) (ob : Obj) : AO → Prop
  | .list xs => ∃ vs n, ob = seqO "list" vs n ∧ AllV C ρ xs vs
  | .tuple xs => ∃ vs, ob = seqO "tuple" vs 0 ∧ AllV C ρ xs vs
  | .cell v => ∃ w, ob.data = .cell w ∧ OptV C ρ v w
  | .lit l i => ob.cls = .type "list_iterator" ∧ ∃ a, ρ[l]? = some a ∧ ob.data = .fields #[.ref a, .int i 0]
  | .tit l i => ob.cls = .type "tuple_iterator" ∧ ∃ a, ρ[l]? = some a ∧ ob.data = .fields #[.ref a, .int i 0]
  | .rit a n => ob = { cls := .type "range_iterator", data := .fields #[rawInt a, rawInt n, rawInt 1] }
  | .range n => small n = true ∧ ∃ t u v, ob = { cls := .type "range", data := .fields #[.int 0 t, .int n u, .int 1 v] }
  | .inst d => ∃ dx, ρ[d]? = some dx ∧ ∃ sl, ob = ⟨.ref C.S.cls, some dx, .plain, sl⟩
  | .attrs m => ∃ mm, NsO ob mm ∧ MapV C ρ m mm ∧ Within mm ["_headers"]
  | .dict es => ∃ kvs, ob.IsDictOf (intKind C.prog C.w) kvs ∧ PairV C ρ es kvs
  | .edict j => ob = { cls := .type "dict", data := .dict #[] } ∧ ∃ a, ρ[j]? = some a ∧ a ≠ sysModules
  | .eitems d => ob.cls = .type "dict_items" ∧ ∃ a, ρ[d]? = some a ∧ ob.data = .fields #[.ref a]
  | .eiter d => ∃ a, ρ[d]? = some a ∧ ob = { cls := .type "dict_itemiterator", data := .fields #[.none, .bool false, .ref a, .int 0 0, .int 0 0, .int 0 0, .none, .none] }
  | .zip i j => ∃ a, ρ[i]? = some a ∧ ∃ b, ρ[j]? = some b ∧ ob = { cls := .type "zip", data := .fields #[.none, .bool false, .bool false, .ref a, .ref b] }

/-! growing ρ -/
theorem pre_get {ρ ρ' : List Addr} (h : ρ <+: ρ') {i : Nat} {a : Addr} (e : ρ[i]? = some a) : ρ'[i]? = some a := by
  obtain ⟨r, rfl⟩ := h
  rw [List.getElem?_append_left (by rw [List.getElem?_eq_some_iff] at e; exact e.1)]
  exact e
theorem VRel.mono {ρ ρ' : List Addr} (h : ρ <+: ρ') : ∀ {x : AV} {v : Value}, VRel C ρ x v → VRel C ρ' x v := by
  intro x v r
  cases x with
  | ref i => obtain ⟨a, e, rfl⟩ := r; exact ⟨a, pre_get h e, rfl⟩
  | _ => exact r
theorem AllV.mono {ρ ρ' : List Addr} (h : ρ <+: ρ') {xs : List AV} {vs : List Value} (r : AllV C ρ xs vs) : AllV C ρ' xs vs := by
  induction r with
  | nil => exact .nil
  | cons a _ ih => exact .cons (a.mono h) ih
theorem OptV.mono {ρ ρ' : List Addr} (h : ρ <+: ρ') {x : Option AV} {v : Option Value} (r : OptV C ρ x v) : OptV C ρ' x v := by
  cases x with
  | none => trivial
  | some x => obtain ⟨w, e, q⟩ := r; exact ⟨w, e, q.mono h⟩
theorem MapV.mono {ρ ρ' : List Addr} (h : ρ <+: ρ') {m : List (Str × AV)} {mm : Str → Option Value} (r : MapV C ρ m mm) : MapV C ρ' m mm :=
  fun x v e => let ⟨w, q, z⟩ := r x v e; ⟨w, q, z.mono h⟩
theorem PairV.mono {ρ ρ' : List Addr} (h : ρ <+: ρ') {xs : List (Int × AV)} {vs : List (Int × Value)} (r : PairV C ρ xs vs) : PairV C ρ' xs vs := by
  induction r with
  | nil => exact .nil
  | cons a _ ih => exact .cons (a.mono h) ih
theorem ORel.mono {ρ ρ' : List Addr} (h : ρ <+: ρ') {ob : Obj} {o : AO} (r : ORel C ρ ob o) : ORel C ρ' ob o := by
  cases o with
  | list xs => obtain ⟨vs, n, e, q⟩ := r; exact ⟨vs, n, e, q.mono h⟩
  | tuple xs => obtain ⟨vs, e, q⟩ := r; exact ⟨vs, e, q.mono h⟩
  | cell v => obtain ⟨w, e, q⟩ := r; exact ⟨w, e, q.mono h⟩
  | lit l i => obtain ⟨c, a, e, q⟩ := r; exact ⟨c, a, pre_get h e, q⟩
  | tit l i => obtain ⟨c, a, e, q⟩ := r; exact ⟨c, a, pre_get h e, q⟩
  | inst d => obtain ⟨a, e, q⟩ := r; exact ⟨a, pre_get h e, q⟩
  | attrs m => obtain ⟨mm, e, q, c⟩ := r; exact ⟨mm, e, q.mono h, c⟩
  | dict es => obtain ⟨kvs, e, q⟩ := r; exact ⟨kvs, e, q.mono h⟩
  | edict j => obtain ⟨e, a, q, n⟩ := r; exact ⟨e, a, pre_get h q, n⟩
  | eitems d => obtain ⟨c, a, e, q⟩ := r; exact ⟨c, a, pre_get h e, q⟩
  | eiter d => obtain ⟨a, e, q⟩ := r; exact ⟨a, pre_get h e, q⟩
  | zip i j => obtain ⟨a, e, b, e', q⟩ := r; exact ⟨a, pre_get h e, b, pre_get h e', q⟩
  | _ => exact r

/-- the heap bears the store -/
def Live (s : VS) (i : Nat) : Prop := (∃ o, s.get i = some o) ∨ i ∈ s.fs.map (·.1)
structure Rel (C : Cx) (s : VS) (ρ : List Addr) (h : Heap) : Prop where
  len : ρ.length = s.nx
  keep : ∀ b o, C.h₀.get? b = some o → h.get? b = some o
  obj : ∀ i o, s.get i = some o → ∃ a ob, ρ[i]? = some a ∧ h.get? a = some ob ∧ ORel C ρ ob o ∧ C.h₀.get? a = none
  frm : ∀ p ∈ s.fs, ∃ a mm, ρ[p.1]? = some a ∧ h.Ns a mm ∧ MapV C ρ p.2 mm ∧ C.h₀.get? a = none
  inj : ∀ i j a, Live s i → Live s j → ρ[i]? = some a → ρ[j]? = some a → i = j
  frn : ∀ p ∈ s.fs, s.get p.1 = none
  frd : (s.fs.map (·.1)).Nodup

theorem Rel.lt {s : VS} {ρ : List Addr} {h : Heap} (R : Rel C s ρ h) {i : Nat} {o : AO} (e : s.get i = some o) : i < s.nx := by
  obtain ⟨a, ob, q, _⟩ := R.obj i o e
  rw [← R.len]
  exact (List.getElem?_eq_some_iff.mp q).1
theorem Rel.flt {s : VS} {ρ : List Addr} {h : Heap} (R : Rel C s ρ h) {p : Nat × List (Str × AV)} (e : p ∈ s.fs) : p.1 < s.nx := by
  obtain ⟨a, mm, q, _⟩ := R.frm p e
  rw [← R.len]
  exact (List.getElem?_eq_some_iff.mp q).1
theorem Rel.live {s : VS} {ρ : List Addr} {h : Heap} (R : Rel C s ρ h) {i : Nat} {a : Addr} (l : Live s i) (e : ρ[i]? = some a) : a < h.objs.size := by
  rcases l with ⟨o, q⟩ | q
  · obtain ⟨a', ob, e', g, _⟩ := R.obj i o q
    rw [e] at e'; cases e'
    exact Heap.lt_size g
  · obtain ⟨p, hp, rfl⟩ := List.mem_map.mp q
    obtain ⟨a', mm, e', g, _⟩ := R.frm p hp
    rw [e] at e'; cases e'
    exact g.lt

/-- a step that keeps every object -/
theorem Rel.keeps {s : VS} {ρ : List Addr} {h h' : Heap} (R : Rel C s ρ h) (k : ∀ b o, h.get? b = some o → h'.get? b = some o) : Rel C s ρ h' where
  len := R.len
  keep b o e := k b o (R.keep b o e)
  obj i o e := let ⟨a, ob, q, g, r, n⟩ := R.obj i o e; ⟨a, ob, q, k a ob g, r, n⟩
  frm p hp := let ⟨a, mm, q, g, r, n⟩ := R.frm p hp; ⟨a, mm, q, g.keeps k, r, n⟩
  inj := R.inj
  frn := R.frn
  frd := R.frd

/-- a new object -/
theorem Rel.new {s : VS} {ρ : List Addr} {h h' : Heap} {ob : Obj} {o : AO} {a : Addr} (R : Rel C s ρ h) (ha : h.get? a = none) (g : h'.get? a = some ob) (k : ∀ b x, h.get? b = some x → h'.get? b = some x) (r : ORel C (ρ ++ [a]) ob o) : Rel C (s.new o) (ρ ++ [a]) h' := by
  have pre : ρ <+: ρ ++ [a] := List.prefix_append ..
  have here : (ρ ++ [a])[s.nx]? = some a := by rw [← R.len]; simp
  have fresh : C.h₀.get? a = none := by
    cases e : C.h₀.get? a with
    | none => rfl
    | some x => rw [R.keep a x e] at ha; cases ha
  have live : ∀ {i : Nat}, Live (s.new o) i → i = s.nx ∨ (Live s i ∧ i < s.nx) := by
    intro i l
    rcases l with ⟨x, q⟩ | q
    · rw [VS.get_new] at q
      by_cases hi : i = s.nx
      · exact .inl hi
      · rw [if_neg hi] at q; exact .inr ⟨.inl ⟨x, q⟩, R.lt q⟩
    · obtain ⟨p, hp, rfl⟩ := List.mem_map.mp q
      exact .inr ⟨.inr q, R.flt hp⟩
  have old : ∀ {i : Nat} {b : Addr}, i < s.nx → (ρ ++ [a])[i]? = some b → ρ[i]? = some b := by
    intro i b hi e
    rw [List.getElem?_append_left (by rw [R.len]; exact hi)] at e
    exact e
  have apart : ∀ {i : Nat} {b : Addr}, Live s i → i < s.nx → (ρ ++ [a])[i]? = some b → b ≠ a := by
    intro i b l hi e q
    subst q
    have e' := old hi e
    rcases l with ⟨x, q⟩ | q
    · obtain ⟨b', ob', q1, q2, _⟩ := R.obj i x q
      rw [e'] at q1; cases q1
      rw [ha] at q2; cases q2
    · obtain ⟨p, hp, rfl⟩ := List.mem_map.mp q
      obtain ⟨b', mm, q1, ⟨_, _, _, q2, _⟩, _⟩ := R.frm p hp
      rw [e'] at q1; cases q1
      rw [ha] at q2; cases q2
  refine ⟨by simp [R.len, VS.new], fun b x e => k b x (R.keep b x e), fun i x e => ?_, fun p hp => ?_, fun i j b li lj ei ej => ?_, fun p hp => ?_, R.frd⟩
  · rw [VS.get_new] at e
    by_cases hi : i = s.nx
    · subst hi
      rw [if_pos rfl] at e
      cases e
      exact ⟨a, ob, here, g, r, fresh⟩
    · rw [if_neg hi] at e
      obtain ⟨b, y, q, gb, rb, nb⟩ := R.obj i x e
      exact ⟨b, y, pre_get pre q, k _ _ gb, rb.mono pre, nb⟩
  · obtain ⟨b, mm, q, gb, rb, nb⟩ := R.frm p hp
    exact ⟨b, mm, pre_get pre q, gb.keeps k, rb.mono pre, nb⟩
  · rcases live li with rfl | ⟨li', hi⟩
    · rw [here] at ei; cases ei
      rcases live lj with rfl | ⟨lj', hj⟩
      · rfl
      · exact absurd rfl (apart lj' hj ej)
    · rcases live lj with rfl | ⟨lj', hj⟩
      · rw [here] at ej; cases ej
        exact absurd rfl (apart li' hi ei)
      · exact R.inj i j b li' lj' (old hi ei) (old hj ej)
  · rw [VS.get_new, if_neg (Nat.ne_of_lt (R.flt hp))]
    exact R.frn p hp

/-- a numbered object is turned -/
theorem Rel.put {s : VS} {ρ : List Addr} {h h' : Heap} {ob : Obj} {o o₀ : AO} {i : Nat} {a : Addr} (R : Rel C s ρ h) (e₀ : s.get i = some o₀) (ea : ρ[i]? = some a) (g : h'.get? a = some ob) (k : Heap.ExtBut a h h') (r : ORel C ρ ob o) : Rel C (s.put i o) ρ h' := by
  obtain ⟨a', ob₀, q₀, g₀, _, n₀⟩ := R.obj i o₀ e₀
  rw [ea] at q₀; cases q₀
  have li : Live s i := .inl ⟨_, e₀⟩
  have live : ∀ {j : Nat}, Live (s.put i o) j → Live s j := by
    intro j l
    rcases l with ⟨x, q⟩ | q
    · rw [VS.get_put] at q
      by_cases hj : j = i
      · subst hj; exact li
      · rw [if_neg hj] at q; exact .inl ⟨x, q⟩
    · exact .inr q
  refine ⟨R.len, fun b x e => k b x (fun z => by subst z; rw [n₀] at e; cases e) (R.keep b x e), fun j x e => ?_, fun p hp => ?_, fun j l b lj ll ej el => R.inj j l b (live lj) (live ll) ej el, fun p hp => ?_, R.frd⟩
  · rw [VS.get_put] at e
    by_cases hj : j = i
    · subst hj
      rw [if_pos rfl] at e
      cases e
      exact ⟨a, ob, ea, g, r, n₀⟩
    · rw [if_neg hj] at e
      obtain ⟨b, y, q, gb, rb, nb⟩ := R.obj j x e
      exact ⟨b, y, q, k b y (fun z => hj (R.inj j i b (.inl ⟨_, e⟩) li q (z ▸ ea))) gb, rb, nb⟩
  · obtain ⟨b, mm, q, gb, rb, nb⟩ := R.frm p hp
    have lp : Live s p.1 := .inr (List.mem_map_of_mem hp)
    have hne : b ≠ a := fun z => by
      have := R.inj p.1 i b lp li q (z ▸ ea)
      have n := R.frn p hp
      rw [this, e₀] at n; cases n
    exact ⟨b, mm, q, gb.extBut k hne, rb, nb⟩
  · have n := R.frn p hp
    rw [VS.get_put]
    by_cases hj : p.1 = i
    · rw [hj, e₀] at n; cases n
    · rw [if_neg hj]; exact n

/-- a numbered object is let go -/
theorem Rel.del {s : VS} {ρ : List Addr} {h h' : Heap} {o₀ : AO} {i : Nat} {a : Addr} (R : Rel C s ρ h) (e₀ : s.get i = some o₀) (ea : ρ[i]? = some a) (k : Heap.ExtBut a h h') : Rel C (s.del i) ρ h' := by
  obtain ⟨a', ob₀, q₀, g₀, _, n₀⟩ := R.obj i o₀ e₀
  rw [ea] at q₀; cases q₀
  have li : Live s i := .inl ⟨_, e₀⟩
  have live : ∀ {j : Nat}, Live (s.del i) j → Live s j := by
    intro j l
    rcases l with ⟨x, q⟩ | q
    · rw [VS.get_del] at q
      by_cases hj : j = i
      · subst hj; exact li
      · rw [if_neg hj] at q; exact .inl ⟨x, q⟩
    · exact .inr q
  refine ⟨R.len, fun b x e => k b x (fun z => by subst z; rw [n₀] at e; cases e) (R.keep b x e), fun j x e => ?_, fun p hp => ?_, fun j l b lj ll ej el => R.inj j l b (live lj) (live ll) ej el, fun p hp => ?_, R.frd⟩
  · rw [VS.get_del] at e
    by_cases hj : j = i
    · subst hj; simp at e
    · rw [if_neg hj] at e
      obtain ⟨b, y, q, gb, rb, nb⟩ := R.obj j x e
      exact ⟨b, y, q, k b y (fun z => hj (R.inj j i b (.inl ⟨_, e⟩) li q (z ▸ ea))) gb, rb, nb⟩
  · obtain ⟨b, mm, q, gb, rb, nb⟩ := R.frm p hp
    have lp : Live s p.1 := .inr (List.mem_map_of_mem hp)
    have hne : b ≠ a := fun z => by
      have := R.inj p.1 i b lp li q (z ▸ ea)
      have n := R.frn p hp
      rw [this, e₀] at n; cases n
    exact ⟨b, mm, q, gb.extBut k hne, rb, nb⟩
  · have n := R.frn p hp
    rw [VS.get_del]
    by_cases hj : p.1 = i
    · rw [hj, e₀] at n; cases n
    · rw [if_neg hj]; exact n

/-- a new namespace for a frame -/
theorem Rel.push {s : VS} {ρ : List Addr} {h h' : Heap} {mm : Str → Option Value} {a : Addr} (R : Rel C s ρ h) (ha : h.get? a = none) (g : h'.Ns a mm) (k : ∀ b x, h.get? b = some x → h'.get? b = some x) : Rel C s.push (ρ ++ [a]) h' := by
  have pre : ρ <+: ρ ++ [a] := List.prefix_append ..
  have here : (ρ ++ [a])[s.nx]? = some a := by rw [← R.len]; simp
  have fresh : C.h₀.get? a = none := by
    cases e : C.h₀.get? a with
    | none => rfl
    | some x => rw [R.keep a x e] at ha; cases ha
  have get : ∀ i, s.push.get i = s.get i := fun i => rfl
  have live : ∀ {i : Nat}, Live s.push i → i = s.nx ∨ (Live s i ∧ i < s.nx) := by
    intro i l
    rcases l with ⟨x, q⟩ | q
    · exact .inr ⟨.inl ⟨x, q⟩, R.lt q⟩
    · rcases List.mem_cons.mp q with rfl | q
      · exact .inl rfl
      · obtain ⟨p, hp, rfl⟩ := List.mem_map.mp q
        exact .inr ⟨.inr q, R.flt hp⟩
  have old : ∀ {i : Nat} {b : Addr}, i < s.nx → (ρ ++ [a])[i]? = some b → ρ[i]? = some b := by
    intro i b hi e
    rw [List.getElem?_append_left (by rw [R.len]; exact hi)] at e
    exact e
  have apart : ∀ {i : Nat} {b : Addr}, Live s i → i < s.nx → (ρ ++ [a])[i]? = some b → b ≠ a := by
    intro i b l hi e q
    subst q
    have e' := old hi e
    rcases l with ⟨x, q⟩ | q
    · obtain ⟨b', ob', q1, q2, _⟩ := R.obj i x q
      rw [e'] at q1; cases q1
      rw [ha] at q2; cases q2
    · obtain ⟨p, hp, rfl⟩ := List.mem_map.mp q
      obtain ⟨b', mm', q1, ⟨_, _, _, q2, _⟩, _⟩ := R.frm p hp
      rw [e'] at q1; cases q1
      rw [ha] at q2; cases q2
  refine ⟨by simp [R.len, VS.push], fun b x e => k b x (R.keep b x e), fun i x e => ?_, fun p hp => ?_, fun i j b li lj ei ej => ?_, fun p hp => ?_, ?_⟩
  · obtain ⟨b, y, q, gb, rb, nb⟩ := R.obj i x e
    exact ⟨b, y, pre_get pre q, k _ _ gb, rb.mono pre, nb⟩
  · rcases List.mem_cons.mp hp with rfl | hp
    · exact ⟨a, mm, here, g, fun x v e => (by cases e), fresh⟩
    · obtain ⟨b, mm', q, gb, rb, nb⟩ := R.frm p hp
      exact ⟨b, mm', pre_get pre q, gb.keeps k, rb.mono pre, nb⟩
  · rcases live li with rfl | ⟨li', hi⟩
    · rw [here] at ei; cases ei
      rcases live lj with rfl | ⟨lj', hj⟩
      · rfl
      · exact absurd rfl (apart lj' hj ej)
    · rcases live lj with rfl | ⟨lj', hj⟩
      · rw [here] at ej; cases ej
        exact absurd rfl (apart li' hi ei)
      · exact R.inj i j b li' lj' (old hi ei) (old hj ej)
  · rw [get]
    rcases List.mem_cons.mp hp with rfl | hp
    · cases e : s.get s.nx with
      | none => rfl
      | some x => exact absurd (R.lt e) (Nat.lt_irrefl _)
    · exact R.frn p hp
  · refine List.nodup_cons.mpr ⟨fun q => ?_, R.frd⟩
    obtain ⟨p, hp, e⟩ := List.mem_map.mp q
    have := R.flt hp
    rw [e] at this
    exact Nat.lt_irrefl _ this
theorem Rel.pop {s : VS} {ρ : List Addr} {h : Heap} (R : Rel C s ρ h) : Rel C s.pop ρ h where
  len := R.len
  keep := R.keep
  obj := R.obj
  frm p hp := R.frm p (List.mem_of_mem_tail hp)
  inj i j a li lj := by
    have live : ∀ {i : Nat}, Live s.pop i → Live s i := by
      intro i l
      rcases l with l | l
      · exact .inl l
      · obtain ⟨p, hp, rfl⟩ := List.mem_map.mp l
        exact .inr (List.mem_map_of_mem (List.mem_of_mem_tail hp))
    exact R.inj i j a (live li) (live lj)
  frn p hp := R.frn p (List.mem_of_mem_tail hp)
  frd := by
    have := R.frd
    cases e : s.fs with
    | nil => simp [VS.pop, e]
    | cons q r => rw [e] at this; simp [VS.pop, e]; exact (List.nodup_cons.mp this).2
/-- the frame's own namespace is turned -/
theorem Rel.nsPut {s : VS} {ρ : List Addr} {h h' : Heap} {mm : Str → Option Value} {i : Nat} {m m' : List (Str × AV)} {a : Addr} (R : Rel C s ρ h) (e₀ : nsAt s i = some m) (ea : ρ[i]? = some a) (g : h'.Ns a mm) (k : Heap.ExtBut a h h') (r : MapV C ρ m' mm) : Rel C (Mine.nsPut s i m') ρ h' := by
  unfold nsAt at e₀
  cases hf : s.fs with
  | nil => rw [hf] at e₀; cases e₀
  | cons p fs =>
    rw [hf] at e₀
    have hpi : p.1 = i := by
      cases q : Nat.beq p.1 i with
      | true => exact Nat.eq_of_beq_eq_true q
      | false => simp [q] at e₀
    have lp : Live s i := .inr (by rw [hf, ← hpi]; exact .head _)
    have hp : p ∈ s.fs := by rw [hf]; exact .head _
    obtain ⟨a', mm₀, q₀, g₀, _, n₀⟩ := R.frm p hp
    rw [hpi, ea] at q₀; cases q₀
    have fs' : (Mine.nsPut s i m').fs = (i, m') :: fs := by simp [Mine.nsPut, hf]
    have fsm : (Mine.nsPut s i m').fs.map (·.1) = s.fs.map (·.1) := by rw [fs', hf]; simp [hpi]
    have live : ∀ {j : Nat}, Live (Mine.nsPut s i m') j → Live s j := by
      intro j l
      rcases l with ⟨x, q⟩ | q
      · exact .inl ⟨x, q⟩
      · exact .inr (by rw [← fsm]; exact q)
    refine ⟨R.len, fun b x e => k b x (fun z => by subst z; rw [n₀] at e; cases e) (R.keep b x e), fun j x e => ?_, fun q hq => ?_, fun j l b lj ll ej el => R.inj j l b (live lj) (live ll) ej el, fun q hq => ?_, by rw [fsm]; exact R.frd⟩
    · obtain ⟨b, y, q, gb, rb, nb⟩ := R.obj j x e
      refine ⟨b, y, q, k b y (fun z => ?_) gb, rb, nb⟩
      have := R.inj j i b (.inl ⟨_, e⟩) lp q (z ▸ ea)
      have n := R.frn p hp
      rw [hpi, ← this] at n
      have e' : s.get j = some x := e
      rw [e'] at n; cases n
    · rw [fs'] at hq
      rcases List.mem_cons.mp hq with rfl | hq
      · exact ⟨a, mm, ea, g, r, n₀⟩
      · have hq' : q ∈ s.fs := by rw [hf]; exact .tail _ hq
        obtain ⟨b, mm', q1, gb, rb, nb⟩ := R.frm q hq'
        refine ⟨b, mm', q1, gb.extBut k (fun z => ?_), rb, nb⟩
        have := R.inj q.1 i b (.inr (List.mem_map_of_mem hq')) lp q1 (z ▸ ea)
        have nd := R.frd
        rw [hf, List.map_cons] at nd
        exact (List.nodup_cons.mp nd).1 (by rw [hpi, ← this]; exact List.mem_map_of_mem hq)
    · rw [fs'] at hq
      rcases List.mem_cons.mp hq with rfl | hq
      · have n := R.frn p hp; rw [hpi] at n; exact n
      · exact R.frn q (by rw [hf]; exact .tail _ hq)
end
end Mine

namespace Mine
section
open PySem PySem.W PyProof.Rows PySem.Calls
variable {C : Cx}

def Ok (C : Cx) (s : VS) (ρ : List Addr) (st : Shared) : Prop := Rel C s ρ st.heap ∧ st = { C.s₁ with heap := st.heap, toks := st.toks }
def Post (C : Cx) {α : Type} (ρ : List Addr) (s' : VS) (P : List Addr → α → Prop) (a : α) (st : Shared) : Prop := ∃ ρ', ρ <+: ρ' ∧ Ok C s' ρ' st ∧ P ρ' a
abbrev PV (C : Cx) (ρ : List Addr) (s' : VS) (v : AV) : Value → Shared → Prop := Post C ρ s' fun ρ' w => VRel C ρ' v w
abbrev M (C : Cx) : Model := model C.prog C.w
/-- room for n more calls within one another -/
structure AOk (n : Nat) (A : Around) : Prop where
  h : A.handled = none
  d : A.depth + n ≤ 900
  u : A.units + 8 * n ≤ 9000
structure EnvR (C : Cx) (ρ : List Addr) (E : AEnv) (env : Env) : Prop where
  scope : env.scope = E.scope
  kind : E.scope.kind = .function
  loc : ρ[E.loc]? = some env.locals
  glob : env.globals = mainGlobals
  bi : env.builtins = builtinsNs
  cells : ∀ x c, lookS x E.cells = some c → ∃ a, env.cells.lookup x = some a ∧ ρ[c]? = some a
theorem EnvR.mono {ρ ρ' : List Addr} {E : AEnv} {env : Env} (x : EnvR C ρ E env) (h : ρ <+: ρ') : EnvR C ρ' E env :=
  ⟨x.scope, x.kind, pre_get h x.loc, x.glob, x.bi, fun y c e => let ⟨a, q, r⟩ := x.cells y c e; ⟨a, q, pre_get h r⟩⟩

theorem Ok.tok {s : VS} {ρ : List Addr} {st : Shared} (O : Ok C s ρ st) (t : Nat) : Ok C s ρ { st with toks := t } := by
  refine ⟨O.1, ?_⟩
  have := O.2
  show ({ st with toks := t } : Shared) = { C.s₁ with heap := st.heap, toks := t }
  rw [this]
theorem Ok.heap {s s' : VS} {ρ ρ' : List Addr} {st : Shared} {h : Heap} (O : Ok C s ρ st) (R : Rel C s' ρ' h) : Ok C s' ρ' { st with heap := h } := by
  refine ⟨R, ?_⟩
  have := O.2
  show ({ st with heap := h } : Shared) = { C.s₁ with heap := h, toks := st.toks }
  rw [this]
theorem Ok.post {α : Type} {s : VS} {ρ : List Addr} {st : Shared} {P : List Addr → α → Prop} {a : α} (O : Ok C s ρ st) (p : P ρ a) : Post C ρ s P a st := ⟨ρ, List.prefix_refl _, O, p⟩
theorem Post.up {α : Type} {ρ ρ₀ : List Addr} {s' : VS} {P : List Addr → α → Prop} {a : α} {st : Shared} (h : ρ₀ <+: ρ) (p : Post C ρ s' P a st) : Post C ρ₀ s' P a st :=
  let ⟨ρ', q, r⟩ := p; ⟨ρ', h.trans q, r⟩
/-- a new object at the heap's end -/
theorem Ok.push {s : VS} {ρ : List Addr} {st : Shared} {ob : Obj} {o : AO} (O : Ok C s ρ st) (r : ∀ a, ORel C (ρ ++ [a]) ob o) (hf : ob.isFreed = false := by rfl) :
    Ok C (s.new o) (ρ ++ [st.heap.objs.size]) { st with heap := st.heap.push ob } := by
  refine O.heap (O.1.new ?_ (Heap.get?_push_size _ hf) (fun b x e => Heap.get?_push_of_some _ e) (r _))
  cases e : st.heap.get? st.heap.objs.size with
  | none => rfl
  | some x => exact absurd (Heap.lt_size e) (Nat.lt_irrefl _)
theorem Ok.pushV {s : VS} {ρ : List Addr} {st : Shared} {ob : Obj} {o : AO} (O : Ok C s ρ st) (r : ∀ a, ORel C (ρ ++ [a]) ob o) (hf : ob.isFreed = false := by rfl) :
    PV C ρ (s.new o) (.ref s.nx) (.ref st.heap.objs.size) { st with heap := st.heap.push ob } := by
  refine ⟨ρ ++ [st.heap.objs.size], List.prefix_append .., O.push r hf, st.heap.objs.size, ?_, rfl⟩
  rw [← O.1.len]; simp
theorem AllV.length {ρ : List Addr} {xs : List AV} {vs : List Value} (r : AllV C ρ xs vs) : vs.length = xs.length := by
  induction r with
  | nil => rfl
  | cons _ _ ih => simp [ih]
theorem AllV.append {ρ : List Addr} {xs ys : List AV} {vs ws : List Value} (r : AllV C ρ xs vs) (q : AllV C ρ ys ws) : AllV C ρ (xs ++ ys) (vs ++ ws) := by
  induction r with
  | nil => exact q
  | cons a _ ih => exact .cons a ih
theorem AllV.get {ρ : List Addr} {xs : List AV} {vs : List Value} (r : AllV C ρ xs vs) : ∀ {i : Nat} {x : AV}, xs[i]? = some x → ∃ v, vs[i]? = some v ∧ VRel C ρ x v := by
  induction r with
  | nil => intro i x e; simp at e
  | cons a _ ih =>
    intro i x e
    cases i with
    | zero => simp at e; subst e; exact ⟨_, by simp, a⟩
    | succ i => simp at e; obtain ⟨v, q, r⟩ := ih e; exact ⟨v, by simpa using q, r⟩
theorem AllV.none {ρ : List Addr} {xs : List AV} {vs : List Value} (r : AllV C ρ xs vs) {i : Nat} (e : xs[i]? = Option.none) : vs[i]? = Option.none := by
  rw [List.getElem?_eq_none_iff] at e ⊢
  rw [r.length]; exact e
theorem AllV.take {ρ : List Addr} {xs : List AV} {vs : List Value} (r : AllV C ρ xs vs) : ∀ n : Nat, AllV C ρ (xs.take n) (vs.take n) := by
  induction r with
  | nil => intro n; simp; exact .nil
  | cons a _ ih =>
    intro n
    cases n with
    | zero => exact .nil
    | succ n => exact .cons a (ih n)
theorem AllV.drop {ρ : List Addr} {xs : List AV} {vs : List Value} (r : AllV C ρ xs vs) : ∀ n : Nat, AllV C ρ (xs.drop n) (vs.drop n) := by
  induction r with
  | nil => intro n; simp; exact .nil
  | cons a r' ih =>
    intro n
    cases n with
    | zero => exact .cons a r'
    | succ n => exact ih n
theorem AllV.replicate {ρ : List Addr} {x : AV} {v : Value} (r : VRel C ρ x v) : ∀ n : Nat, AllV C ρ (List.replicate n x) (List.replicate n v)
  | 0 => .nil
  | n + 1 => .cons r (AllV.replicate r n)

theorem listAt_some {s : VS} {a : AV} {xs : List AV} (h : listAt s a = some xs) : ∃ i, a = .ref i ∧ s.get i = some (.list xs) := by
  unfold listAt at h
  split at h
  · rename_i i
    split at h
    · rename_i e; cases h; exact ⟨i, rfl, e⟩
    · cases h
  · cases h
theorem tupAt_some {s : VS} {a : AV} {xs : List AV} (h : tupAt s a = some xs) : ∃ i, a = .ref i ∧ s.get i = some (.tuple xs) := by
  unfold tupAt at h
  split at h
  · rename_i i
    split at h
    · rename_i e; cases h; exact ⟨i, rfl, e⟩
    · cases h
  · cases h
/-- a list that a reference bears -/
theorem Ok.list {s : VS} {ρ : List Addr} {st : Shared} {i : Nat} {xs : List AV} {v : Value} (O : Ok C s ρ st) (e : s.get i = some (.list xs)) (r : VRel C ρ (.ref i) v) :
    ∃ a vs n, v = .ref a ∧ ρ[i]? = some a ∧ st.heap.get? a = some { cls := .type "list", data := .seq vs.toArray n } ∧ AllV C ρ xs vs := by
  obtain ⟨a, ob, q, g, ⟨vs, n, rfl, al⟩, _⟩ := O.1.obj i _ e
  obtain ⟨a', q', rfl⟩ := r
  rw [q] at q'; cases q'
  exact ⟨a, vs, n, rfl, q, g, al⟩
theorem Ok.tuple0 {s : VS} {ρ : List Addr} {st : Shared} {i : Nat} {xs : List AV} {v : Value} (O : Ok C s ρ st) (e : s.get i = some (.tuple xs)) (r : VRel C ρ (.ref i) v) :
    ∃ a vs, v = .ref a ∧ ρ[i]? = some a ∧ st.heap.get? a = some { cls := .type "tuple", data := .seq vs.toArray } ∧ AllV C ρ xs vs := by
  obtain ⟨a, ob, q, g, ⟨vs, rfl, al⟩, _⟩ := O.1.obj i (.tuple xs) e
  obtain ⟨a', q', rfl⟩ := r
  rw [q] at q'; cases q'
  exact ⟨a, vs, rfl, q, g, al⟩
theorem Ok.tuple {s : VS} {ρ : List Addr} {st : Shared} {i : Nat} {xs : List AV} {v : Value} (O : Ok C s ρ st) (e : s.get i = some (.tuple xs)) (r : VRel C ρ (.ref i) v) :
    ∃ a vs n, v = .ref a ∧ ρ[i]? = some a ∧ st.heap.get? a = some { cls := .type "tuple", data := .seq vs.toArray n } ∧ AllV C ρ xs vs :=
  let ⟨a, vs, e, q, g, al⟩ := O.tuple0 e r; ⟨a, vs, 0, e, q, g, al⟩
theorem few_some {xs : List AV} (h : few xs = true) : xs.length ≤ 1000 := Nat.le_of_ble_eq_true h
theorem few_line {n : Nat} (h : n ≤ 1001) : n ≤ sizeLine := by rw [sizeLine_eq]; omega

theorem mkList_ok {s s' : VS} {ρ : List Addr} {st : Shared} {xs : List AV} {vs : List Value} {v : AV} {A : Around} (h : mkList s xs = some (v, s')) (O : Ok C s ρ st) (r : AllV C ρ xs vs) (E) :
    wpAny (M C) A (newList vs) (PV C ρ s' v) E st := by
  unfold mkList at h
  split at h
  · rename_i hf
    cases h
    exact wpAny_newObj_type (O.pushV fun a => ⟨vs, 0, rfl, r.mono (List.prefix_append ..)⟩) (by show vs.toArray.size ≤ sizeLine; rw [List.size_toArray, r.length]; have := few_some hf; exact few_line (by omega))
  · cases h
theorem mkTup_ok {s s' : VS} {ρ : List Addr} {st : Shared} {xs : List AV} {vs : List Value} {v : AV} {A : Around} (h : mkTup s xs = some (v, s')) (O : Ok C s ρ st) (r : AllV C ρ xs vs) (E) :
    wpAny (M C) A (newTuple vs) (PV C ρ s' v) E st := by
  unfold mkTup at h
  split at h
  · rename_i hf
    cases h
    exact wpAny_newObj_type (O.pushV fun a => ⟨vs, rfl, r.mono (List.prefix_append ..)⟩) (by show vs.toArray.size ≤ sizeLine; rw [List.size_toArray, r.length]; have := few_some hf; exact few_line (by omega))
  · cases h
end
end Mine

namespace Mine
section
open PySem PySem.W PyProof.Rows PySem.Calls PySem.Spec
variable {C : Cx}

/-! data -/
theorem quiet_ok {x : Str} {u : Unit} (h : lookS x quietT = some u) : PyData.strOk x = true := by
  have m := lookS_mem h
  simp only [quietT, List.mem_cons, Prod.mk.injEq, and_true, List.not_mem_nil, or_false] at m
  rcases m with rfl | rfl | rfl | rfl | rfl | rfl | rfl | rfl | rfl | rfl <;> decide +kernel
inductive All2 {α β : Type} (R : α → β → Prop) : List α → List β → Prop where
  | nil : All2 R [] []
  | cons {x y xs ys} : R x y → All2 R xs ys → All2 R (x :: xs) (y :: ys)
theorem mapO_some {α β : Type} {f : α → Option β} : ∀ {xs : List α} {ys : List β}, mapO f xs = some ys → All2 (fun x y => f x = some y) xs ys
  | [], ys, h => by cases h; exact .nil
  | x :: xs, ys, h => by
    obtain ⟨y, hy, h⟩ := andThen_some h
    obtain ⟨zs, hz, h⟩ := andThen_some h
    cases h
    exact .cons hy (mapO_some hz)
theorem toD_ok {s : VS} {ρ : List Addr} {st : Shared} (O : Ok C s ρ st) : ∀ (n : Nat) {a : AV} {d : PyData} {v : Value}, toD s n a = some d → VRel C ρ a v →
    (∃ as, Reads st.heap v d as) ∧ d.canLay0 = true ∧ d.depth ≤ n := by
  intro n
  induction n with
  | zero => intro a d v h; cases h
  | succ n ih =>
    intro a d v h r
    have all : ∀ {xs : List AV} {ds : List PyData} {vs : List Value}, All2 (fun x y => toD s n x = some y) xs ds → AllV C ρ xs vs →
        (∃ as, ReadsAll st.heap vs ds as) ∧ PyData.canLayAll0 ds = true ∧ PyData.depthAll ds ≤ n := by
      intro xs ds vs f
      induction f generalizing vs with
      | nil => intro q; cases q; exact ⟨⟨_, ReadsAll.nil⟩, rfl, Nat.zero_le _⟩
      | cons e _ ih' =>
        intro q
        cases q with
        | cons q1 q2 =>
          obtain ⟨⟨as, ra⟩, l1, d1⟩ := ih e q1
          obtain ⟨⟨bs, rb⟩, l2, d2⟩ := ih' q2
          refine ⟨⟨_, ReadsAll.cons ra rb⟩, ?_, ?_⟩
          · simp only [PyData.canLayAll0, l1, l2, Bool.and_self]
          · simp only [PyData.depthAll]; omega
    unfold toD at h
    split at h
    · cases h
      obtain ⟨t, rfl⟩ := r
      exact ⟨⟨_, Reads.int _ t⟩, rfl, Nat.zero_le _⟩
    · obtain ⟨u, hu, h⟩ := andThen_some h
      cases h
      obtain ⟨t, rfl⟩ := r
      exact ⟨⟨_, Reads.str _ t⟩, quiet_ok hu, Nat.zero_le _⟩
    · rename_i i
      unfold toDO at h
      split at h
      · rename_i xs e
        obtain ⟨ds, hd, h⟩ := andThen_some h
        cases h
        obtain ⟨p, vs, k, rfl, _, g, al⟩ := O.list e r
        obtain ⟨⟨as, ra⟩, l, dd⟩ := all (mapO_some hd) al
        exact ⟨⟨_, reads_list_at g rfl rfl (by simpa using ra)⟩, l, by simp only [PyData.depth]; omega⟩
      · rename_i xs e
        obtain ⟨ds, hd, h⟩ := andThen_some h
        cases h
        obtain ⟨p, vs, k, rfl, _, g, al⟩ := O.tuple e r
        obtain ⟨⟨as, ra⟩, l, dd⟩ := all (mapO_some hd) al
        exact ⟨⟨_, reads_tuple_at g rfl rfl (by simpa using ra)⟩, l, by simp only [PyData.depth]; omega⟩
      · cases h
    · cases h
theorem shaped_of {d : PyData} (l : d.canLay0 = true) (h : d.depth ≤ 8) : SeqAt.shaped d = true := by
  unfold SeqAt.shaped
  rw [l, Bool.true_and]
  exact decide_eq_true (Nat.le_trans h (by decide))
theorem eq_ok {n : Nat} {A : Around} (hA : AOk n A) {s : VS} {ρ : List Addr} {st : Shared} (O : Ok C s ρ st) {a b : AV} {va vb : Value} {c : Bool} (h : deq s a b = some c) (ra : VRel C ρ a va) (rb : VRel C ρ b vb) (E) :
    wpAny (M C) A (compareOp .Eq va vb) (PV C ρ s (.bool c)) E st := by
  obtain ⟨da, ha, h⟩ := andThen_some h
  obtain ⟨db, hb, h⟩ := andThen_some h
  cases h
  obtain ⟨⟨as, r1⟩, l1, d1⟩ := toD_ok O 8 ha ra
  obtain ⟨⟨bs, r2⟩, l2, d2⟩ := toD_ok O 8 hb rb
  exact eq_dataH r1 r2 (shaped_of l1 d1) (shaped_of l2 d2) (by have := hA.u; show A.units + 64 < 9900; omega) (O.post rfl)
theorem ne_ok {n : Nat} {A : Around} (hA : AOk n A) {s : VS} {ρ : List Addr} {st : Shared} (O : Ok C s ρ st) {a b : AV} {va vb : Value} {c : Bool} (h : deq s a b = some c) (ra : VRel C ρ a va) (rb : VRel C ρ b vb) (E) :
    wpAny (M C) A (compareOp .NotEq va vb) (PV C ρ s (.bool (!c))) E st := by
  obtain ⟨da, ha, h⟩ := andThen_some h
  obtain ⟨db, hb, h⟩ := andThen_some h
  cases h
  obtain ⟨⟨as, r1⟩, l1, d1⟩ := toD_ok O 8 ha ra
  obtain ⟨⟨bs, r2⟩, l2, d2⟩ := toD_ok O 8 hb rb
  exact ne_dataH r1 r2 (shaped_of l1 d1) (shaped_of l2 d2) (by have := hA.u; show A.units + 64 < 9900; omega) (O.post rfl)

/-! comparisons -/
theorem toks_ok {s : VS} {ρ : List Addr} {st : Shared} (O : Ok C s ρ st) : Ok C s ρ { st with toks := st.toks + 1 } := O.tok _
theorem none_beq {ρ : List Addr} {a : AV} {c : Bool} {va : Value} (h : isA a .none = some c) (ra : VRel C ρ a va) : (va == Value.none) = c := by
  cases a with
  | none => cases h; cases ra; rfl
  | int i => cases h; obtain ⟨t, rfl⟩ := ra; rfl
  | str x => cases h; obtain ⟨t, rfl⟩ := ra; rfl
  | ref i => cases h; obtain ⟨p, _, rfl⟩ := ra; rfl
  | _ => cases h
theorem ofString_inj {x y : String} (h : Str.ofString x = Str.ofString y) : x = y := by
  rw [Str.ofString_eq_toList, Str.ofString_eq_toList] at h
  have h : (x.toList.map Char.toNat).toArray = (y.toList.map Char.toNat).toArray := congrArg Str.cps h
  have h : x.toList.map Char.toNat = y.toList.map Char.toNat := by simpa using h
  have inj : ∀ (l m : List Char), l.map Char.toNat = m.map Char.toNat → l = m := by
    intro l
    induction l with
    | nil => intro m h; cases m with
      | nil => rfl
      | cons b m => simp at h
    | cons a l ih => intro m h; cases m with
      | nil => simp at h
      | cons b m =>
        simp only [List.map_cons, List.cons.injEq] at h
        rw [ih m h.2, Char.toNat_inj.mp h.1]
  exact String.toList_inj.mp (inj _ _ h)
theorem is_ok {A : Around} {s : VS} {ρ : List Addr} {st : Shared} (O : Ok C s ρ st) {a b : AV} {va vb : Value} {c : Bool} (h : isA a b = some c) (ra : VRel C ρ a va) (rb : VRel C ρ b vb) (E) :
    wpAny (M C) A (compareOp .Is va vb) (PV C ρ s (.bool c)) E st ∧ wpAny (M C) A (compareOp .IsNot va vb) (PV C ρ s (.bool (!c))) E st := by
  cases b with
  | none =>
    cases rb
    have e := none_beq h ra
    exact ⟨is_none (by rw [e]; exact O.post rfl), isNot_none (by rw [e]; exact O.post rfl)⟩
  | raw y =>
    cases rb
    cases hy : vb with
    | type y =>
      rw [hy] at h
      cases a with
      | raw x =>
        cases ra
        cases hx : va with
        | type x =>
          rw [hx] at h
          have h : some (seq (Str.ofString x) (Str.ofString y)) = some c := h
          cases h
          have e : ((Value.type x) == (Value.type y)) = seq (Str.ofString x) (Str.ofString y) := by
            by_cases q : x = y
            · subst q; rw [seq_iff.mpr rfl]; exact beq_self_eq_true _
            · have q' : Str.ofString x ≠ Str.ofString y := fun z => q (ofString_inj z)
              rw [seq_false.mpr q']
              exact beq_eq_false_iff_ne.mpr (fun z => q (by cases z; rfl))
          exact ⟨wpAny_is_plain rfl (by rw [e]; exact O.post rfl), wpAny_isNot_plain rfl (by rw [e]; exact O.post rfl)⟩
        | _ => rw [hx] at h; cases h
      | _ => cases h
    | _ => rw [hy] at h; cases h
  | _ => cases h
end
end Mine

namespace Mine
section
open PySem PySem.W PyProof.Rows PySem.Calls PySem.Spec
variable {C : Cx}

def InB (C : Cx) : Prop := C.S.lo ≤ C.X ∧ C.X < C.S.hi

theorem some_bool {b c : Bool} (h : some b = some c) : b = c := by cases h; rfl
theorem ltA_some {a b : AV} {c : Bool} (h : ltA a b = some c) : ∃ i j, a = .int i ∧ b = .int j ∧ decide (i < j) = c := by
  cases a with
  | int i => cases b with
    | int j => exact ⟨i, j, rfl, rfl, some_bool h⟩
    | _ => cases h
  | _ => cases h
theorem leA_some (B : InB C) {ρ : List Addr} {a b : AV} {c : Bool} {va vb : Value} (h : leA C.S a b = some c) (ra : VRel C ρ a va) (rb : VRel C ρ b vb) : ∃ i j t u, va = .int i t ∧ vb = .int j u ∧ decide (i ≤ j) = c := by
  cases a with
  | int i =>
    obtain ⟨t, rfl⟩ := ra
    cases b with
    | int j => obtain ⟨u, rfl⟩ := rb; exact ⟨i, j, t, u, rfl, rfl, some_bool h⟩
    | num k =>
      obtain ⟨u, rfl⟩ := rb
      refine ⟨i, C.X - k, t, u, rfl, rfl, ?_⟩
      have B1 := B.1
      have B2 := B.2
      unfold leA at h
      by_cases h1 : i + k ≤ C.S.lo
      · simp only [decide_eq_true h1] at h
        rw [← some_bool h]
        exact decide_eq_true (by omega)
      · simp only [decide_eq_false h1] at h
        by_cases h2 : C.S.hi ≤ i + k
        · simp only [decide_eq_true h2] at h
          rw [← some_bool h]
          exact decide_eq_false (by omega)
        · simp only [decide_eq_false h2] at h; cases h
    | _ => cases h
  | _ => cases h
theorem notO_some {x : Option Bool} {c : Bool} (h : notO x = some c) : ∃ b, x = some b ∧ c = !b := by
  cases x with
  | none => cases h
  | some b => cases h; exact ⟨b, rfl, rfl⟩
theorem cmp_ok (B : InB C) {n : Nat} {A : Around} (hA : AOk n A) {s : VS} {ρ : List Addr} {st : Shared} (O : Ok C s ρ st) {op : CmpOp} {a b : AV} {va vb : Value} {c : Bool} (h : cmpA C.S s op a b = some c)
    (ra : VRel C ρ a va) (rb : VRel C ρ b vb) (E) : wpAny (M C) A (compareOp op va vb) (PV C ρ s (.bool c)) E st := by
  cases op with
  | Lt =>
    obtain ⟨i, j, rfl, rfl, e⟩ := ltA_some h
    obtain ⟨t, rfl⟩ := ra
    obtain ⟨u, rfl⟩ := rb
    exact lt_int (by rw [e]; exact O.post rfl)
  | LtE =>
    obtain ⟨i, j, t, u, rfl, rfl, e⟩ := leA_some B h ra rb
    exact le_int (by rw [e]; exact O.post rfl)
  | Gt =>
    obtain ⟨i, j, rfl, rfl, e⟩ := ltA_some h
    obtain ⟨t, rfl⟩ := ra
    obtain ⟨u, rfl⟩ := rb
    exact gt_int (by rw [e]; exact O.post rfl)
  | GtE =>
    obtain ⟨i, j, t, u, rfl, rfl, e⟩ := leA_some B h rb ra
    exact ge_int (by rw [e]; exact O.post rfl)
  | Eq => exact eq_ok hA O h ra rb E
  | NotEq => obtain ⟨b, hb, rfl⟩ := notO_some h; exact ne_ok hA O hb ra rb E
  | Is => exact (is_ok O h ra rb E).1
  | IsNot => obtain ⟨b, hb, rfl⟩ := notO_some h; exact (is_ok O hb ra rb E).2
  | _ => cases h
theorem behind_of {C : Cx} {s : VS} {op : CmpOp} {a b : AV} {c : Bool} (h : cmpA C.S s op a b = some c) (e : Expr) : behindInMarks op e = false := by
  have key : op ≠ .In → op ≠ .NotIn → behindInMarks op e = false := by
    intro h1 h2
    unfold behindInMarks
    split
    · have e1 : (op == CmpOp.In) = false := by cases op <;> first | rfl | exact absurd rfl h1
      have e2 : (op == CmpOp.NotIn) = false := by cases op <;> first | rfl | exact absurd rfl h2
      rw [e1, e2]; simp
    · rfl
  refine key (fun z => ?_) (fun z => ?_) <;> (subst z; cases h)
theorem tru_ok {A : Around} {s : VS} {ρ : List Addr} {st : Shared} (O : Ok C s ρ st) {a : AV} {va : Value} {c : Bool} (h : truA a = some c) (ra : VRel C ρ a va) (E) : wpAny (M C) A (truthy va) (Post C ρ s fun _ b => b = c) E st := by
  cases a with
  | none => cases h; cases ra; exact truthy_none (O.post rfl)
  | bool b => cases h; cases ra; exact wpAny_truthy_bool (O.post rfl)
  | _ => cases h

/-! arithmetic -/
theorem small_some {i : Int} (h : small i = true) : -1000000000 < i ∧ i < 1000000000 := by
  unfold small at h
  split at h
  · rename_i q; exact ⟨of_decide_eq_true q, of_decide_eq_true h⟩
  · cases h
theorem small_bits {i : Int} (h : small i = true) : Builtin.Int.intBits i ≤ 64 := by
  obtain ⟨a, b⟩ := small_some h
  exact intBits_le_64 (by omega) (by omega)
theorem small_mul {i j : Int} (h : small j = true) : IntMulOk i j := IntMulOk.of_right (small_bits h)
theorem small_py {i j : Int} (h : small j = true) : Builtin.divisionGoesByPylong i j = false := by
  obtain ⟨a, b⟩ := small_some h
  exact PyProof.noPylong_small (by omega)
theorem listV {s : VS} {ρ : List Addr} {st : Shared} {x : AV} {xs : List AV} {v : Value} (O : Ok C s ρ st) (h : listAt s x = some xs) (r : VRel C ρ x v) :
    ∃ i a vs n, x = .ref i ∧ s.get i = some (.list xs) ∧ v = .ref a ∧ ρ[i]? = some a ∧ st.heap.get? a = some { cls := .type "list", data := .seq vs.toArray n } ∧ AllV C ρ xs vs := by
  obtain ⟨i, rfl, e⟩ := listAt_some h
  obtain ⟨a, vs, n, rfl, q, g, al⟩ := O.list e r
  exact ⟨i, a, vs, n, rfl, e, rfl, q, g, al⟩
theorem add_ok {A : Around} {s s' : VS} {ρ : List Addr} {st : Shared} (O : Ok C s ρ st) {a b v : AV} {va vb : Value} (h : addA s a b = some (v, s')) (ra : VRel C ρ a va) (rb : VRel C ρ b vb) (E) :
    wpAny (M C) A (binaryOp .Add va vb) (PV C ρ s' v) E st := by
  cases a with
  | int i =>
    obtain ⟨t, rfl⟩ := ra
    cases b with
    | int j => cases h; obtain ⟨u, rfl⟩ := rb; exact add_int ((toks_ok O).post ⟨_, rfl⟩)
    | _ => cases h
  | any =>
    obtain ⟨i, t, rfl⟩ := ra
    cases b with
    | int j => cases h; obtain ⟨u, rfl⟩ := rb; exact add_int ((toks_ok O).post ⟨_, _, rfl⟩)
    | _ => cases h
  | ref i =>
    obtain ⟨xs, hx, h⟩ := andThen_some h
    obtain ⟨ys, hy, h⟩ := andThen_some h
    obtain ⟨_, l, vs, n, _, _, rfl, _, g, al⟩ := listV O hx ra
    obtain ⟨_, k, ws, n2, _, _, rfl, _, g2, al2⟩ := listV O hy rb
    unfold mkList at h
    split at h
    · rename_i hf
      cases h
      have hlen := few_some hf
      have e : vs.toArray ++ ws.toArray = (vs ++ ws).toArray := by simp
      have hsz : vs.toArray.size + ws.toArray.size ≤ sizeLine := by
        rw [List.size_toArray, List.size_toArray, al.length, al2.length]
        rw [List.length_append] at hlen
        exact few_line (by omega)
      refine concat_meets ⟨_, g, rfl⟩ ⟨_, g2, rfl⟩ noFill_list_add seq_list_add PySem.F.slot_list_add PySem.F.entry_list_add (PySem.F.args_list_add_2 _ _) (list_addW l k vs.toArray ws.toArray n n2 none none #[] #[] hsz) ⟨g, g2, ?_⟩
      rw [e]
      exact O.pushV fun a => ⟨_, 0, rfl, (al.append al2).mono (List.prefix_append ..)⟩
    · cases h
  | _ => cases h
theorem sub_ok {A : Around} {s s' : VS} {ρ : List Addr} {st : Shared} (O : Ok C s ρ st) {a b v : AV} {va vb : Value} (h : subA s a b = some (v, s')) (ra : VRel C ρ a va) (rb : VRel C ρ b vb) (E) :
    wpAny (M C) A (binaryOp .Sub va vb) (PV C ρ s' v) E st := by
  cases b with
  | int j =>
    obtain ⟨u, rfl⟩ := rb
    cases a with
    | int i => cases h; obtain ⟨t, rfl⟩ := ra; exact sub_int ((toks_ok O).post ⟨_, rfl⟩)
    | num c => cases h; obtain ⟨t, rfl⟩ := ra; exact sub_int ((toks_ok O).post ⟨_, by rw [Int.sub_sub]⟩)
    | _ => cases h
  | _ => cases h
theorem foldl_one {v : Value} : ∀ (n : Nat) (acc : Array Value), List.foldl (fun x1 x2 => x1 ++ x2) acc (List.replicate n #[v]) = acc ++ (List.replicate n v).toArray
  | 0, acc => by simp
  | n + 1, acc => by
    rw [List.replicate_succ, List.foldl_cons, foldl_one n, List.replicate_succ]
    apply Array.toList_inj.mp
    simp
theorem mul_ok {A : Around} {s s' : VS} {ρ : List Addr} {st : Shared} (O : Ok C s ρ st) {a b v : AV} {va vb : Value} (h : mulA s a b = some (v, s')) (ra : VRel C ρ a va) (rb : VRel C ρ b vb) (E) :
    wpAny (M C) A (binaryOp .Mult va vb) (PV C ρ s' v) E st := by
  cases b with
  | int j =>
    obtain ⟨u, rfl⟩ := rb
    unfold mulA at h
    dsimp only at h
    split at h
    · rename_i hs
      cases a with
      | int i => cases h; obtain ⟨t, rfl⟩ := ra; exact PyProof.Rows.mul_int ((toks_ok O).post ⟨_, rfl⟩) (small_mul hs)
      | any => cases h; obtain ⟨i, t, rfl⟩ := ra; exact PyProof.Rows.mul_int ((toks_ok O).post ⟨_, _, rfl⟩) (small_mul hs)
      | ref i =>
        obtain ⟨xs, hx, h⟩ := andThen_some h
        obtain ⟨_, l, vs, n, _, _, rfl, _, g, al⟩ := listV O hx ra
        unfold mulL at h
        split at h
        · rename_i x
          split at h
          · rename_i hj
            cases h
            have hj := of_decide_eq_true hj
            have hs := small_some hs
            cases al with
            | cons r1 r2 =>
              cases r2
              rename_i v0
              have hlo : -(2 ^ 63 : Int) ≤ j := by omega
              have hhi : j < 2 ^ 63 := by omega
              refine wpAny_binaryOp_repeat_ref (T := "list") (U := "int") (by decide) ⟨_, g, rfl⟩ (fun s' => typeIs_int s' j u) noFill_list_mul F.fills_int_mul F.slot_int_rmul repeat_list F.slot_int_index.lookup
                (call_meets F.slot_int_rmul (typeIs_int st j u) F.entry_int_rmul (F.args_int_rmul_2 _ _) (int___rmul___int_list j u l [v0].toArray n)
                  ⟨g, rfl, ⟨_, g, rfl⟩, call_meets F.slot_list_mul ⟨_, g, rfl⟩ F.entry_list_mul (F.args_list_mul_2 _ _)
                    (AutoListH.list___mul___list_int_3 l [v0].toArray n j u (by simp [Builtin.List.listFitsIndex]; omega) (by simp; omega) (by simp [Builtin.List.listTooLong, sizeLine]; omega))
                    ⟨g, ?_⟩⟩)
              have e : List.foldl (fun x1 x2 => x1 ++ x2) #[] (List.replicate (if ([v0].toArray).isEmpty = true then 0 else j.toNat) [v0].toArray) = (List.replicate j.toNat v0).toArray := by
                have : (if ([v0].toArray).isEmpty = true then 0 else j.toNat) = j.toNat := by simp
                rw [this]
                have := foldl_one (v := v0) j.toNat #[]
                simpa using this
              rw [e]
              exact O.pushV fun a => ⟨_, 0, rfl, (AllV.replicate r1 _).mono (List.prefix_append ..)⟩
          · cases h
        · cases h
      | _ => cases h
    · cases h
  | _ => cases h
theorem div_ok (B : InB C) {A : Around} {s s' : VS} {ρ : List Addr} {st : Shared} (O : Ok C s ρ st) {a b v : AV} {va vb : Value} (h : divA C.S s a b = some (v, s')) (ra : VRel C ρ a va) (rb : VRel C ρ b vb) (E) :
    wpAny (M C) A (binaryOp .FloorDiv va vb) (PV C ρ s' v) E st := by
  cases b with
  | int j =>
    obtain ⟨u, rfl⟩ := rb
    unfold divA at h
    dsimp only at h
    split at h
    · rename_i hp
      have hp := of_decide_eq_true hp
      split at h
      · rename_i hs
        cases a with
        | int i =>
          cases h
          obtain ⟨t, rfl⟩ := ra
          exact floordiv_int (by omega) ((toks_ok O).post ⟨_, by rw [Int.fdiv_eq_ediv_of_nonneg _ (by omega)]⟩) (.inl (small_py hs))
        | num c =>
          obtain ⟨t, rfl⟩ := ra
          have h : divN C.S s c j = some (v, s') := h
          unfold divN at h
          split at h
          · rename_i e
            cases h
            have e := of_decide_eq_true e
            have B1 := B.1
            have B2 := B.2
            have l1 : (C.S.lo - c) / j ≤ (C.X - c) / j := Int.ediv_le_ediv hp (by omega)
            have l2 : (C.X - c) / j ≤ (C.S.hi - 1 - c) / j := Int.ediv_le_ediv hp (by omega)
            have key : (C.X - c) / j = (C.S.lo - c) / j := by omega
            exact floordiv_int (by omega) ((toks_ok O).post ⟨_, by rw [Int.fdiv_eq_ediv_of_nonneg _ (by omega), key]⟩) (.inl (small_py hs))
          · cases h
        | _ => cases h
      · cases h
    · cases h
  | _ => cases h
theorem mod_ok {A : Around} {s s' : VS} {ρ : List Addr} {st : Shared} (O : Ok C s ρ st) {a b v : AV} {va vb : Value} (h : modA s a b = some (v, s')) (ra : VRel C ρ a va) (rb : VRel C ρ b vb) (E) :
    wpAny (M C) A (binaryOp .Mod va vb) (PV C ρ s' v) E st := by
  cases b with
  | int j =>
    obtain ⟨u, rfl⟩ := rb
    unfold modA at h
    dsimp only at h
    split at h
    · rename_i hp
      have hp := of_decide_eq_true hp
      cases a with
      | int i =>
        cases h
        obtain ⟨t, rfl⟩ := ra
        exact mod_int' (by omega) ((toks_ok O).post ⟨_, by rw [Int.fmod_eq_emod_of_nonneg _ (by omega)]⟩)
      | any =>
        cases h
        obtain ⟨i, t, rfl⟩ := ra
        exact mod_int' (by omega) ((toks_ok O).post ⟨_, _, by rw [Int.fmod_eq_emod_of_nonneg _ (by omega)], Int.emod_nonneg _ (by omega), Int.emod_lt_of_pos _ hp⟩)
      | _ => cases h
    · cases h
  | _ => cases h
theorem pow_ok {A : Around} {s s' : VS} {ρ : List Addr} {st : Shared} (O : Ok C s ρ st) {a b v : AV} {va vb : Value} (h : powA s a b = some (v, s')) (ra : VRel C ρ a va) (rb : VRel C ρ b vb) (E) :
    wpAny (M C) A (binaryOp .Pow va vb) (PV C ρ s' v) E st := by
  cases b with
  | int j =>
    obtain ⟨u, rfl⟩ := rb
    unfold powA at h
    dsimp only at h
    split at h
    · rename_i h0
      split at h
      · rename_i h9
        cases a with
        | int i =>
          obtain ⟨t, rfl⟩ := ra
          dsimp only at h
          split at h
          · rename_i hs
            cases h
            have h0 := of_decide_eq_true h0
            have h9 := of_decide_eq_true h9
            have hb := small_bits hs
            refine pow_int h0 ?_ ((toks_ok O).post ⟨_, rfl⟩)
            have : ((Builtin.Int.intBits i : Nat) : Int) ≤ 64 := by omega
            have := Int.mul_le_mul this (show j ≤ 9 by omega) h0 (by omega)
            omega
          · cases h
        | _ => cases h
      · cases h
    · cases h
  | _ => cases h
theorem bin_ok (B : InB C) {A : Around} {s s' : VS} {ρ : List Addr} {st : Shared} (O : Ok C s ρ st) {op : Operator} {a b v : AV} {va vb : Value} (h : binA C.S s op a b = some (v, s')) (ra : VRel C ρ a va) (rb : VRel C ρ b vb) (E) :
    wpAny (M C) A (binaryOp op va vb) (PV C ρ s' v) E st := by
  cases op with
  | Add => exact add_ok O h ra rb E
  | Sub => exact sub_ok O h ra rb E
  | Mult => exact mul_ok O h ra rb E
  | FloorDiv => exact div_ok B O h ra rb E
  | Mod => exact mod_ok O h ra rb E
  | Pow => exact pow_ok O h ra rb E
  | _ => cases h
theorem aug_ok {A : Around} {s : VS} {ρ : List Addr} {st : Shared} (O : Ok C s ρ st) {op : Operator} {a b v : AV} {va vb : Value} (h : augA op a b = some v) (ra : VRel C ρ a va) (rb : VRel C ρ b vb) (E) :
    wpAny (M C) A (inplaceOp op va vb) (PV C ρ s v) E st := by
  cases a with
  | int i =>
    obtain ⟨t, rfl⟩ := ra
    cases b with
    | int j =>
      obtain ⟨u, rfl⟩ := rb
      cases op with
      | Add => cases h; exact PyProof.Rows.iadd_int ((toks_ok O).post ⟨_, rfl⟩)
      | Mult =>
        unfold augA at h
        dsimp only at h
        split at h
        · rename_i hs
          cases h
          exact PyProof.Rows.imul_int ((toks_ok O).post ⟨_, rfl⟩) (small_mul hs)
        · cases h
      | _ => cases h
    | _ => cases h
  | _ => cases h
end
end Mine

namespace Mine
section
open PySem PySem.W PyProof.Rows PySem.Calls PySem.Spec PySem.Builtin PySem.Builtin.Re
set_option maxRecDepth 100000

theorem slot_search : Slot "re.Pattern" "search" "re.Pattern.search" :=
  .of (owner := "re.Pattern") (n := "search") (by rw [typeLookup_type, builtinLookup_eq_fast]; kernel_rfl) (by decide +kernel) (by decide +kernel) (by decide +kernel)
    (by first | exact .inl (by decide +kernel) | exact .inr (by decide +kernel)) (by rw [isSubtype_type]; kernel_rfl)
theorem type_search : typeOf (.builtin "re.Pattern.search") = pure (.type "method_descriptor") := by show builtinType _ = _; rw [builtinType_eq_fast]; kernel_rfl
theorem entry_search : entryFor table "re.Pattern.search" = some Builtin.«re.Pattern.search» := entryFor_of_tree (by kernel_rfl)
theorem plainAttrs_pat : PlainAttrs "re.Pattern" :=
  ⟨⟨"object.__getattribute__", by rw [typeLookup_type, builtinLookup_eq_fast]; kernel_rfl, by decide +kernel⟩, by rw [typeLookup_type, builtinLookup_eq_fast]; kernel_rfl⟩
theorem owner_pat : Manifest.owners.lookup (String.ofList ['n', 'r', 'e', 't', 't', 'a', 'P', '.', 'e', 'r'].reverse) = some Manifest.sig_re_Pattern := by kernel_rfl
theorem args_search (a b : Value) : argsOk "re.Pattern.search" ⟨[a, b], []⟩ := by
  unfold argsOk; rw [signature?_of (id := "re.Pattern.search") (n := ['h', 'c', 'r', 'a', 'e', 's']) (o := ['n', 'r', 'e', 't', 't', 'a', 'P', '.', 'e', 'r']) (by kernel_rfl) owner_pat]; kernel_rfl

def driveM : Nat → Sre.M → Option Sre.M
  | 0, _ => none
  | k + 1, m => match (m.runFor reTurnSteps).outcome.isSome with
    | true => some (m.runFor reTurnSteps)
    | false => driveM k (m.runFor reTurnSteps)
def failed : Option Sre.M → Bool
  | some m => match m.outcome with | some .failed => true | _ => false
  | none => false
section
variable {prog : Program} {w : World} {A : Around} {E : Value → Shared → Prop} {s : Shared}
theorem drive_ok {Q : Sre.M → Shared → Prop} {m' : Sre.M} (h : Q m' s) : ∀ {k n : Nat} {m : Sre.M}, driveM k m = some m' → k ≤ n → wpAny (model prog w) A (reDrive n m) Q E s := by
  intro k
  induction k with
  | zero => intro n m e; cases e
  | succ k ih =>
    intro n m e hn
    cases n with
    | zero => omega
    | succ n =>
      unfold driveM at e
      show wpAny _ _ (if (m.runFor reTurnSteps).outcome.isSome = true then pure (m.runFor reTurnSteps) else do rule "sre.turn"; reDrive n (m.runFor reTurnSteps)) _ _ _
      split at e
      · rename_i q
        cases e
        rw [if_pos q]
        exact wpAny_pure h
      · rename_i q
        rw [if_neg (by rw [q]; exact Bool.false_ne_true)]
        exact wpAny_bind (wpAny_rule (ih e (by omega)))
theorem rules_ok {Q : PUnit → Shared → Prop} (h : Q ⟨⟩ s) (f : Nat → Bool) (g : Nat → String) : ∀ l : List Nat, wpAny (model prog w) A (forIn l PUnit.unit fun i _ =>
    if f i = true then (do rule (g i); pure (ForInStep.yield PUnit.unit)) else pure (ForInStep.yield PUnit.unit)) Q E s := by
  intro l
  induction l with
  | nil => exact wpAny_pure h
  | cons i l ih =>
    rw [List.forIn_cons]
    refine wpAny_bind ?_
    cases f i with
    | true => exact wpAny_bind (wpAny_rule (wpAny_pure ih))
    | false => exact wpAny_pure ih
theorem runEnd_ok {Q : Option Sre.M → Shared → Prop} {m : Sre.M} (hf : failed (driveM 60 m) = true) (h : Q none s) : wpAny (model prog w) A (reRunToEnd m) Q E s := by
  cases e : driveM 60 m with
  | none => rw [e] at hf; cases hf
  | some m' =>
    rw [e] at hf
    unfold failed at hf
    dsimp only at hf
    split at hf
    · rename_i q
      unfold reRunToEnd
      refine wpAny_bind (drive_ok ?_ e (by decide))
      refine wpAny_bind (rules_ok ?_ (fun i => m'.seen.has i) (fun i => Sre.names.getD i "") _)
      rw [q]
      exact wpAny_pure h
    · cases hf

/-- a compiled pattern in the heap -/
def PatAt (h : Heap) (p : Addr) (code : List Int) : Prop :=
  ∃ a t c vs n, h.get? p = some { cls := .type "re.Pattern", data := .fields #[a, .int 32 t, .int 0 0, .none, .none, .ref c, .int 0 0] } ∧
    h.get? c = some { cls := .type "tuple", data := .seq vs n } ∧ vs.map reRawOf = code.toArray
def quietM (code : List Int) (x : Str) : Bool := failed (driveM 60 (Sre.forSearch (code.toArray.map (·.toNat)) x.cps 0 0 x.cps.size false))
theorem reNamed_eq (x : Str) (t : Tok) : reNamed "re.Pattern.search" "search" ["string", "pos", "endpos"] 1 [.str x t] [] = pure [some (.str x t), none, none] := by
  kernel_rfl
theorem target_ok {p : Addr} {code : List Int} {x : Str} {t : Tok} {Q : ReTarget → Shared → Prop} (hp : PatAt s.heap p code) (hx : x.cps.size ≤ 2 ^ 63 - 1)
    (h : Q ⟨.ref p, .str x t, code.toArray.map (·.toNat), x.cps, 0, 0, 0, x.cps.size⟩ s) : wpAny (model prog w) A (reTarget "re.Pattern.search" "search" ⟨[.ref p, .str x t], []⟩) Q E s := by
  obtain ⟨a, u, c, vs, n, g, gc, hv⟩ := hp
  unfold reTarget
  simp only []
  rw [reNamed_eq]
  refine wpAny_bind (wpAny_pure ?_)
  refine wpAny_bind (wpAny_pure ?_)
  refine wpAny_bind (wpAny_pure ?_)
  refine wpAny_bind (wpAny_fieldsOf g rfl ?_)
  refine wpAny_bind (m := reTextOf (.str x t)) (wpAny_of_eq (a := (x.cps, 0)) rfl ?_)
  refine wpAny_bind (m := reNoCollectionInside (.str x t) 0) (wpAny_pure ?_)
  have e : wpAny (model prog w) A (reRawItems (.ref c)) (fun r s' => r = code.toArray ∧ s' = s) E s := by
    unfold reRawItems
    exact wpAny_bind (wpAny_seqItems gc rfl (wpAny_pure ⟨hv, rfl⟩))
  refine wpAny_bind (wpAny_mono e (fun r s' q => ?_) fun _ _ x => x)
  obtain ⟨rfl, rfl⟩ := q
  refine wpAny_pure ?_
  have e1 : Min.min (Int.toNat 0) x.cps.size = 0 := Nat.zero_min _
  have e2 : Min.min ((2 : Int) ^ 63 - 1).toNat x.cps.size = x.cps.size := Nat.min_eq_right (by simpa using hx)
  show Q ⟨.ref p, .str x t, _, x.cps, 0, reRawNat (.int 0 0), Min.min (Int.toNat 0) x.cps.size, Min.min ((2 : Int) ^ 63 - 1).toNat x.cps.size⟩ s'
  rw [e1, e2]
  exact h
theorem search_ok {p : Addr} {code : List Int} {x : Str} {t : Tok} {Q : Value → Shared → Prop} (hp : PatAt s.heap p code) (hq : quietM code x = true) (hx : x.cps.size ≤ 2 ^ 63 - 1) (h : Q .none s) :
    wpAny (model prog w) A (call (.builtin "re.Pattern.search") [.ref p, .str x t]) Q E s := by
  obtain ⟨a, u, c, vs, n, g, gc, hv⟩ := id hp
  refine wpAny_call_entry slot_search ⟨_, g, rfl⟩ entry_search ?_ (args_search _ _)
  show wpAny _ _ (reTarget "re.Pattern.search" "search" ⟨[.ref p, .str x t], []⟩ >>= fun t => reAnswer t (Sre.forSearch t.code t.text t.groups t.pos t.lim false)) _ _ _
  refine wpAny_bind (target_ok hp hx ?_)
  unfold reAnswer
  exact wpAny_bind (runEnd_ok hq (wpAny_pure ⟨_, rfl, h⟩))
end
def codeN : List Int := [14, 10, 4, 1, 1, 22, 0, 31, 16, 127, 0, 13, 7, 22, 0, 31, 16, 127, 0, 1]
def codeV : List Int := [14, 14, 4, 1, 1, 9, 4294966783, 0, 0, 2147483648, 0, 0, 0, 0, 0, 13, 11, 9, 4294966783, 0, 0, 2147483648, 0, 0, 0, 0, 0, 1]
theorem quietN : (quietT.all fun p => quietM codeN p.1) = true := by decide +kernel
theorem quietV : (quietT.all fun p => quietM codeV p.1) = true := by decide +kernel
end
end Mine

namespace Mine
section
open PySem PySem.W PyProof.Rows PySem.Calls PySem.Spec
variable {C : Cx}

inductive KwR (C : Cx) (ρ : List Addr) : List (Str × AV) → List (Str × Value) → Prop where
  | nil : KwR C ρ [] []
  | cons {k x v xs vs} : VRel C ρ x v → KwR C ρ xs vs → KwR C ρ ((k, x) :: xs) ((k, v) :: vs)
theorem KwR.mono {ρ ρ' : List Addr} (h : ρ <+: ρ') {xs : List (Str × AV)} {vs : List (Str × Value)} (r : KwR C ρ xs vs) : KwR C ρ' xs vs := by
  induction r with
  | nil => exact .nil
  | cons a _ ih => exact .cons (a.mono h) ih
theorem KwR.append {ρ : List Addr} {xs ys : List (Str × AV)} {vs ws : List (Str × Value)} (r : KwR C ρ xs vs) (q : KwR C ρ ys ws) : KwR C ρ (xs ++ ys) (vs ++ ws) := by
  induction r with
  | nil => exact q
  | cons a _ ih => exact .cons a ih
/-- the binder gives what the plain binder gives -/
def BindOk (C : Cx) (fd : FuncData) (F : Fn) : Prop :=
  ∀ (A : Around) (E : Value → Shared → Prop) (s : VS) (ρ : List Addr) (st : Shared) (avs : List AV) (akw bs bk : List (Str × AV)) (vs : List Value) (kw : List (Str × Value)),
    bindP F.params.args avs = some bs → bindK akw F.kwd F.params.kwonlyargs = some bk → Ok C s ρ st → AllV C ρ avs vs → KwR C ρ akw kw →
    wpAny (M C) A (bindArgs fd ⟨vs, kw⟩) (Post C ρ (kwArg F.params.kwarg (bs ++ bk) s).2 fun ρ' binds => KwR C ρ' (kwArg F.params.kwarg (bs ++ bk) s).1 binds) E st
structure FnAt (C : Cx) (a : Addr) (F : Fn) : Prop where
  ok : ∃ o fd, C.h₀.get? a = some o ∧ o.data = .func fd ∧ fd.body = .stmts F.body ∧ fd.scope = F.scope ∧ fd.closure = [] ∧ fd.globals = mainGlobals ∧ fd.builtins = builtinsNs ∧
    C.h₀.CodeRec fd.code fd.qualname ∧ F.scope.isCoroutine = false ∧ F.scope.isGenerator = false ∧ F.scope.kind = .function ∧ BindOk C fd F
/-- what stands in the heap ahead of the call -/
structure Glob (C : Cx) : Prop where
  ok : ∃ mg mb, C.h₀.Ns mainGlobals mg ∧ C.h₀.Ns builtinsNs mb ∧ ∀ x v, lookS x C.S.glob = some v → ∃ w, VRel C [] v w ∧ (mg x = some w ∨ (mg x = none ∧ mb x = some w))
  pat : ∀ a, memN a C.S.pats = true → PatAt C.h₀ a codeN ∨ PatAt C.h₀ a codeV
  lim : C.h₀.NoLimit
  fn : ∀ a F, lookN a C.S.fn = some F → FnAt C a F
  scr : ∃ vs : List Value, C.h₀.IsList C.sa vs.toArray ∧ C.S.sn ≤ 100 ∧ AllV C [] (List.replicate C.S.sn .any) vs

theorem AOk.mono {n m : Nat} {A : Around} (h : AOk n A) (q : m ≤ n) : AOk m A := ⟨h.h, by have := h.d; omega, by have := h.u; omega⟩
theorem AOk.deeper {n : Nat} {A : Around} (h : AOk (n + 1) A) (env : Env) : AOk n (A.deeper env) := ⟨h.h, by show A.depth + 1 + n ≤ 900; have := h.d; omega, by show A.units + 3 + 8 * n ≤ 9000; have := h.u; omega⟩
theorem AOk.mark {n : Nat} {A : Around} (h : AOk n A) : AOk n (A.mark none) := ⟨by show Option.or none A.handled = none; rw [h.h]; rfl, h.d, h.u⟩
theorem AOk.room {n : Nat} {A : Around} (h : AOk n A) : A.depth < recursionLimit := by have := h.d; show A.depth < 1000; omega
end
end Mine

namespace Mine
section
open PySem PySem.W PyProof.Rows PySem.Calls PySem.Spec
variable {C : Cx}

theorem oddName_false {x : Str} (h : oddName x = false) : (x == ("__debug__" : Str)) = false ∧ (x == ("__classdict__" : Str)) = false := by
  unfold oddName at h
  split at h
  · cases h
  · rename_i q
    rw [seq_eq] at q h
    exact ⟨q, h⟩
theorem kindOf_eq {ρ : List Addr} {E : AEnv} {env : Env} (V : EnvR C ρ E env) (x : Str) : env.kindOf x = lookS x E.scope.names := by
  rw [lookS_eq, ← V.scope]; rfl
theorem nsAt_some {s : VS} {i : Nat} {m : List (Str × AV)} (h : nsAt s i = some m) : (i, m) ∈ s.fs := by
  unfold nsAt at h
  split at h
  · rename_i p r e
    split at h
    · rename_i q
      have := Nat.eq_of_beq_eq_true q
      cases h
      subst this
      rw [e]
      exact .head _
    · cases h
  · cases h
theorem cellAt_some {s : VS} {i : Nat} {v : Option AV} (h : cellAt s i = some v) : s.get i = some (.cell v) := by
  unfold cellAt at h
  split at h
  · rename_i e; cases h; exact e
  · cases h
/-- the frame's namespace -/
theorem ns_ok {s : VS} {ρ : List Addr} {st : Shared} {E : AEnv} {env : Env} {m : List (Str × AV)} (O : Ok C s ρ st) (V : EnvR C ρ E env) (h : nsAt s E.loc = some m) :
    ∃ mm, st.heap.Ns env.locals mm ∧ MapV C ρ m mm := by
  obtain ⟨a, mm, q, g, r, _⟩ := O.1.frm _ (nsAt_some h)
  rw [V.loc] at q
  cases q
  exact ⟨mm, g, r⟩
theorem loadL_ok {A : Around} {s : VS} {ρ : List Addr} {st : Shared} {E : AEnv} {env : Env} {x : Str} {v : AV} (O : Ok C s ρ st) (V : EnvR C ρ E env) (h : loadL E x s = some v) (Ex) :
    wpAny (M C) A (loadName env x) (PV C ρ s v) Ex st := by
  obtain ⟨k, hk, h⟩ := andThen_some h
  cases k with
  | «local» =>
    obtain ⟨m, hm, h⟩ := andThen_some h
    obtain ⟨mm, g, r⟩ := ns_ok O V hm
    obtain ⟨w, hw, rw'⟩ := r x v h
    exact wpAny_loadName_local (by rw [V.scope]; exact V.kind) (by rw [kindOf_eq V, hk]) g hw (O.post rw')
  | _ => cases h
theorem loadC_ok {s : VS} {ρ : List Addr} {st : Shared} {E : AEnv} {env : Env} {x : Str} {v : AV} (O : Ok C s ρ st) (V : EnvR C ρ E env) (h : loadC E x s = some v) :
    ∃ c w, env.cells.lookup x = some c ∧ st.heap.IsCell c (some w) ∧ VRel C ρ v w := by
  obtain ⟨c, hc, h⟩ := andThen_some h
  obtain ⟨u, hu, h⟩ := andThen_some h
  cases h
  obtain ⟨a, q1, q2⟩ := V.cells x c hc
  obtain ⟨a', ob, q, g, ⟨w, hd, w', rfl, r⟩, _⟩ := O.1.obj c (.cell _) (cellAt_some hu)
  rw [q2] at q
  cases q
  exact ⟨a, w', q1, ⟨ob, g, hd⟩, r⟩
theorem VRel.imm {ρ : List Addr} {v : AV} {w : Value} (r : VRel C [] v w) : VRel C ρ v w := r.mono (List.nil_prefix)
theorem load_ok (G : Glob C) {A : Around} {s : VS} {ρ : List Addr} {st : Shared} {E : AEnv} {env : Env} {x : Str} {v : AV} (O : Ok C s ρ st) (V : EnvR C ρ E env) (h : loadA C.S E x s = some v) (pos Ex) :
    wpAny (M C) A (eval (.Name x pos) env) (PV C ρ s v) Ex st := by
  unfold loadA at h
  split at h
  · cases h
  · rename_i odd
    obtain ⟨d1, d2⟩ := oddName_false odd
    obtain ⟨k, hk, h⟩ := andThen_some h
    have hkind : env.scope.kind = .function := by rw [V.scope]; exact V.kind
    cases k with
    | «local» =>
      obtain ⟨m, hm, h⟩ := andThen_some h
      obtain ⟨mm, g, r⟩ := ns_ok O V hm
      obtain ⟨w, hw, rw'⟩ := r x v h
      exact wpAny_Name (wpAny_loadName_local hkind (by rw [kindOf_eq V, hk]) g hw (O.post rw')) d1
    | cell =>
      obtain ⟨c, w, q, g, r⟩ := loadC_ok O V h
      exact wpAny_Name (wpAny_loadName_cell hkind (by rw [kindOf_eq V, hk]) q g (O.post r)) d1
    | free =>
      obtain ⟨c, w, q, g, r⟩ := loadC_ok O V h
      exact wpAny_Name (wpAny_loadName_free hkind (by rw [kindOf_eq V, hk]) q g (O.post r) d2) d1
    | globalImplicit =>
      obtain ⟨mg, mb, ng, nb, f⟩ := G.ok
      obtain ⟨w, r, hw⟩ := f x v h
      refine Name_function_global hkind (by rw [kindOf_eq V, hk]) ?_ d1
      have g1 : st.heap.Ns env.globals mg := by rw [V.glob]; exact ng.keeps O.1.keep
      have g2 : st.heap.Ns env.builtins mb := by rw [V.bi]; exact nb.keeps O.1.keep
      rcases hw with hw | ⟨h1, h2⟩
      · exact loadGlobal_global g1 hw (O.post r.imm)
      · exact loadGlobal_builtin g1 h1 g2 h2 (O.post r.imm)
    | _ => cases h
theorem MapV.set {ρ : List Addr} {m : List (Str × AV)} {mm : Str → Option Value} (r : MapV C ρ m mm) {x : Str} {v : AV} {w : Value} (q : VRel C ρ v w) : MapV C ρ (setS x v m) (fun y => if y = x then some w else mm y) := by
  intro y u e
  rw [lookS_setS] at e
  by_cases h : y = x
  · rw [if_pos h] at e
    cases e
    exact ⟨w, by simp [h], q⟩
  · rw [if_neg h] at e
    obtain ⟨z, hz, rz⟩ := r y u e
    exact ⟨z, by simp [h, hz], rz⟩
theorem store_ok {A : Around} {s s' : VS} {ρ : List Addr} {st : Shared} {E : AEnv} {env : Env} {x : Str} {v : AV} {w : Value} (O : Ok C s ρ st) (V : EnvR C ρ E env) (h : storeA E x v s = some s') (r : VRel C ρ v w) (Ex) :
    wpAny (M C) A (storeName env x w) (Post C ρ s' fun _ _ => True) Ex st := by
  have hkind : env.scope.kind = .function := by rw [V.scope]; exact V.kind
  obtain ⟨k, hk, h⟩ := andThen_some h
  cases k with
  | «local» =>
    obtain ⟨m, hm, h⟩ := andThen_some h
    cases h
    obtain ⟨mm, g, rm⟩ := ns_ok O V hm
    refine wpAny_storeName_local (by rw [kindOf_eq V, hk]) g (fun h' hn hs => ?_) (by rw [hkind]; rfl)
    have O' := (O.heap (O.1.nsPut hm V.loc hn hs.extBut (rm.set r))).tok (st.toks + 1)
    exact O'.post trivial
  | cell =>
    obtain ⟨c, hc, h⟩ := andThen_some h
    obtain ⟨u, hu, h⟩ := andThen_some h
    cases h
    obtain ⟨a, q1, q2⟩ := V.cells x c hc
    obtain ⟨a', ob, q, g, ⟨w', hd, _⟩, _⟩ := O.1.obj c (.cell _) (cellAt_some hu)
    rw [q2] at q
    cases q
    refine wpAny_storeName_cell hkind (by rw [kindOf_eq V, hk]) q1 ⟨ob, g, hd⟩ fun h' ⟨o', ho', hd'⟩ hs => ?_
    exact (O.heap (O.1.put (o := .cell (some v)) (cellAt_some hu) q2 ho' hs.extBut ⟨_, hd', _, rfl, r⟩)).post trivial
  | _ => cases h
end
end Mine

namespace Mine
section
open PySem PySem.W PyProof.Rows PySem.Calls PySem.Spec
variable {C : Cx}

theorem isList_of {h : Heap} {a : Addr} {vs : List Value} {n : Nat} (g : h.get? a = some { cls := .type "list", data := .seq vs.toArray n }) : h.IsList a vs.toArray :=
  ⟨_, g, rfl, n, rfl⟩
theorem isTup_of {h : Heap} {a : Addr} {vs : List Value} {n : Nat} (g : h.get? a = some { cls := .type "tuple", data := .seq vs.toArray n }) : IsTup h a vs.toArray :=
  ⟨_, g, rfl, n, rfl⟩
theorem subscripted_plain {slice : Expr} (h : ∀ l u p q, slice ≠ .Slice l u p q) (o i : Value) : subscripted slice false o i = operate [o, i] (getItem o i) := by
  cases slice
  case Slice l u p q => exact absurd rfl (h l u p q)
  all_goals rfl
theorem AllV.nth {ρ : List Addr} {xs : List AV} {vs : List Value} (r : AllV C ρ xs vs) {i : Nat} {x : AV} (e : Mine.nth xs i = some x) : ∃ v, vs[i]? = some v ∧ VRel C ρ x v := by
  rw [nth_eq] at e
  exact r.get e
theorem AllV.lt {ρ : List Addr} {xs : List AV} {vs : List Value} (r : AllV C ρ xs vs) {i : Nat} {x : AV} (e : Mine.nth xs i = some x) : i < xs.length := by
  rw [nth_eq] at e
  exact (List.getElem?_eq_some_iff.mp e).1

theorem idxA_some {n : Nat} {i : Int} {j : Nat} (h : idxA n i = some j) : (-1000000000 < i ∧ i < 1000000000) ∧ ((0 ≤ i ∧ j = i.toNat) ∨ (i < 0 ∧ 0 ≤ i + n ∧ j = (i + n).toNat)) := by
  unfold idxA at h
  split at h
  · rename_i e0
    have b := small_some e0
    refine ⟨b, ?_⟩
    split at h
    · rename_i e
      cases h
      exact .inl ⟨of_decide_eq_true e, rfl⟩
    · rename_i e
      split at h
      · rename_i e'
        cases h
        exact .inr ⟨by have := of_decide_eq_false e; omega, of_decide_eq_true e', rfl⟩
      · cases h
  · cases h
theorem idxA_seq {n : Nat} {i : Int} {j : Nat} (h : idxA n i = some j) (hj : j < n) : seqIndex? i n = some j := by
  have := (idxA_some h).2
  unfold seqIndex?
  simp only []
  rcases this with ⟨h0, rfl⟩ | ⟨h0, h1, rfl⟩
  · have e : (if i < 0 then i + (n : Int) else i) = i := if_neg (by omega)
    rw [e, if_pos (by simp only [Bool.and_eq_true, decide_eq_true_eq]; omega)]
  · have e : (if i < 0 then i + (n : Int) else i) = i + n := if_pos h0
    rw [e, if_pos (by simp only [Bool.and_eq_true, decide_eq_true_eq]; omega)]
theorem PairV.at {ρ : List Addr} {es : List (Int × AV)} {kvs : List (Int × Value)} (r : PairV C ρ es kvs) {i : Int} : ∀ {x : AV}, lookI i es = some x → ∃ v, valueAt kvs i = some v ∧ VRel C ρ x v := by
  induction r with
  | nil => intro x h; cases h
  | @cons k y v xs vs a _ ih =>
    intro x h
    unfold lookI at h
    split at h
    · rename_i e
      cases h
      have := of_decide_eq_true e
      dsimp only at this
      subst this
      exact ⟨v, by simp [valueAt], a⟩
    · rename_i e
      have := of_decide_eq_false e
      dsimp only at this
      obtain ⟨w, hw, r⟩ := ih h
      refine ⟨w, ?_, r⟩
      unfold valueAt at hw ⊢
      rw [List.find?_cons_of_neg (by simp; exact fun e => this e.symm)]
      exact hw
/-- a subscript by an int -/
theorem item_ok {A : Around} {s : VS} {ρ : List Addr} {st : Shared} {a i x : AV} {va vi : Value} {value slice : Expr} (h : itemA s a i = some x) (O : Ok C s ρ st) (ra : VRel C ρ a va) (ri : VRel C ρ i vi)
    (hsl : ∀ l u p q, slice ≠ .Slice l u p q) (Ex) : wpAny (M C) A (subscriptTail value slice va vi) (PV C ρ s x) Ex st := by
  unfold itemA at h
  cases a with
  | ref a =>
    cases i with
    | int i =>
      obtain ⟨t, rfl⟩ := ri
      dsimp only at h
      cases e : s.get a with
      | none => rw [e] at h; cases h
      | some o =>
        rw [e] at h
        cases o with
        | list xs =>
          obtain ⟨j, hj, h⟩ := andThen_some h
          obtain ⟨b, vs, n, rfl, _, g, al⟩ := O.list e ra
          have hlt := al.lt h
          obtain ⟨v, hv, rv⟩ := al.nth h
          obtain ⟨fit, cs⟩ := idxA_some hj
          refine tail_any (isList_of g).typeIs slot_list_getitem.lookup ?_ (subscripted_plain hsl _ _)
          rcases cs with ⟨h0, rfl⟩ | ⟨h0, h1, rfl⟩
          · exact wpAny_getItem_list (isList_of g) h0 (by omega) (by simpa using hv) (O.post rv)
          · exact wpAny_getItem_list_neg (isList_of g) h0 (by rw [List.size_toArray, al.length]; omega) (by omega) (by rw [List.size_toArray, al.length]; simpa using hv) (O.post rv)
        | tuple xs =>
          obtain ⟨j, hj, h⟩ := andThen_some h
          obtain ⟨b, vs, n, rfl, _, g, al⟩ := O.tuple e ra
          have hlt := al.lt h
          obtain ⟨v, hv, rv⟩ := al.nth h
          obtain ⟨fit, cs⟩ := idxA_some hj
          exact item_tupleT (isTup_of g) (by omega) (by omega) (by rw [al.length]; exact idxA_seq hj hlt) hv (O.post rv) (subscripted_plain hsl _ _)
        | dict es =>
          obtain ⟨b, ob, q, g, ⟨kvs, hd, pr⟩, _⟩ := O.1.obj a (.dict es) e
          obtain ⟨b', q', rfl⟩ := ra
          rw [q] at q'; cases q'
          obtain ⟨v, hv, rv⟩ := pr.at h
          have hd' : st.heap.DictOf (intKind C.prog C.w) b kvs := Heap.dictOf_iff.mpr ⟨ob, g, hd⟩
          exact tail_any hd'.typeIs slot_dict_getitem.lookup (wpAny_getItem_of (knd := intKind C.prog C.w) (k := i) (by simp [intKind, Value.isInt]) hd'.mapOf hv ((O.tok _).post rv)) (subscripted_plain hsl _ _)
        | _ => cases h
    | _ => cases h
  | _ => cases h

/-! slices -/
theorem cutA_eq (n : Nat) (i : Int) : cutA n i = clipAt n i := by
  unfold cutA clipAt
  split
  · rename_i e
    have := of_decide_eq_true e
    rw [if_pos this]
    omega
  · rename_i e
    have := of_decide_eq_false e
    rw [if_neg this]
    show min i.toNat n = _
    omega
theorem cutO_eq (n d : Nat) (i : Option Int) : cutO n d i = i.elim d (clipAt n) := by
  cases i with
  | none => rfl
  | some i => exact cutA_eq n i
inductive PartR : Option Int → Value → Prop where
  | none : PartR none .none
  | some (i : Int) (t : Tok) : PartR (some i) (.int i t)
theorem PartR.isPart {i : Option Int} {v : Value} (r : PartR i v) : IsPart v i := by
  cases r with
  | none => exact .none
  | some i t => exact .int i t
/-- a slice of a list -/
theorem slice_ok {A : Around} {s s' : VS} {ρ : List Addr} {st : Shared} {a x : AV} {lo hi : Option Int} {va vl vu : Value} {value : Expr} {l u : Option Expr} {p : Pos} (h : sliA s a lo hi = some (x, s')) (O : Ok C s ρ st) (ra : VRel C ρ a va)
    (rl : PartR lo vl) (ru : PartR hi vu) (Ex) :
    wpAny (M C) A (subscriptTail value (.Slice l u none p) va (.ref st.heap.objs.size)) (PV C ρ s' x) Ex { st with heap := st.heap.push { cls := .type "slice", data := .fields #[vl, vu, .none] } } := by
  unfold sliA at h
  obtain ⟨xs, hx, h1⟩ := andThen_some h
  clear h
  obtain ⟨i, rfl, e⟩ := listAt_some hx
  split at h1
  · cases h1
  · rename_i hf
    have hl := few_some hf
    unfold mkList at h1
    split at h1
    · cases h1
      obtain ⟨b, vs, n, rfl, _, g, al⟩ := O.list e ra
      have O' : Ok C s ρ { st with heap := st.heap.push { cls := .type "slice", data := .fields #[vl, vu, .none] } } := O.heap (O.1.keeps fun b o e => Heap.get?_push_of_some _ e)
      refine tail_any ((isList_of g).push _).typeIs slot_list_getitem.lookup ?_ (ops := [.ref st.heap.objs.size, .ref b]) rfl
      refine wpAny_getItem_list_slice ((isList_of g).push _) (Heap.IsSliceOf.new ..) rl.isPart ru.isPart .none (by simp) ?_ (by rw [List.size_toArray, al.length]; exact few_line (by omega))
      rw [slicePick_plain]
      refine O'.pushV fun a => ⟨_, 0, rfl, ?_⟩
      rw [List.size_toArray, al.length, cutO_eq, cutO_eq, List.drop_take]
      exact ((al.mono (List.prefix_append ..)).drop _).take _
    · cases h1
theorem sliceS_ok (G : Glob C) {A : Around} {s s' : VS} {ρ : List Addr} {st : Shared} {a x : AV} {lo hi : Option Int} {va vl vu : Value} {value : Expr} {l u : Option Expr} {p : Pos} (h : sliS C.S s a lo hi = some (x, s')) (O : Ok C s ρ st) (ra : VRel C ρ a va)
    (rl : PartR lo vl) (ru : PartR hi vu) (Ex) :
    wpAny (M C) A (subscriptTail value (.Slice l u none p) va (.ref st.heap.objs.size)) (PV C ρ s' x) Ex { st with heap := st.heap.push { cls := .type "slice", data := .fields #[vl, vu, .none] } } := by
  cases a with
  | scr =>
    unfold sliS at h
    dsimp only at h
    cases lo with
    | some i => cases h
    | none =>
      cases hi with
      | none => cases h
      | some i =>
        dsimp only at h
        split at h
        · rename_i hi
          have hi := of_decide_eq_true hi
          subst hi
          cases h
          obtain ⟨vs, ⟨oo, g0, g1, n, g2⟩, hn, al⟩ := G.scr
          have g : st.heap.IsList C.sa vs.toArray := ⟨oo, O.1.keep _ _ g0, g1, n, g2⟩
          have hlen : vs.length = C.S.sn := by rw [al.length, List.length_replicate]
          cases ra
          have O' : Ok C s ρ { st with heap := st.heap.push { cls := .type "slice", data := .fields #[vl, vu, .none] } } := O.heap (O.1.keeps fun b o e => Heap.get?_push_of_some _ e)
          refine tail_any (g.push _).typeIs slot_list_getitem.lookup ?_ (ops := [.ref st.heap.objs.size, .ref C.sa]) rfl
          refine wpAny_getItem_list_slice (g.push _) (Heap.IsSliceOf.new ..) rl.isPart ru.isPart .none (by simp) ?_ (by rw [List.size_toArray, hlen]; exact few_line (by omega))
          rw [slicePick_plain]
          refine O'.pushV fun a => ⟨_, 0, rfl, ?_⟩
          rw [List.size_toArray, hlen]
          have q := ((al.mono (List.nil_prefix (l := ρ ++ [a]))).drop (cutO C.S.sn 0 none)).take (cutO C.S.sn C.S.sn (some 3) - cutO C.S.sn 0 none)
          rw [cutO_eq, cutO_eq] at q
          have e : (List.replicate C.S.sn AV.any).drop (cutO C.S.sn 0 none) = List.replicate C.S.sn AV.any := rfl
          have e2 : cutO C.S.sn C.S.sn (some 3) - cutO C.S.sn 0 none = Nat.min 3 C.S.sn := rfl
          rw [← cutO_eq, ← cutO_eq, e, e2, List.take_replicate] at q
          rw [← cutO_eq, ← cutO_eq, e2]
          have e3 : min (Nat.min 3 C.S.sn) C.S.sn = Nat.min 3 C.S.sn := by show min (min 3 C.S.sn) C.S.sn = min 3 C.S.sn; omega
          rw [e3] at q
          exact q
        · cases h
  | _ => exact slice_ok h O ra rl ru Ex
end
end Mine

namespace Mine
section
open PySem PySem.W PyProof.Rows PySem.Calls PySem.Spec
variable {C : Cx}

theorem Ok.obj {s : VS} {ρ : List Addr} {st : Shared} {i : Nat} {o : AO} {v : Value} (O : Ok C s ρ st) (e : s.get i = some o) (r : VRel C ρ (.ref i) v) :
    ∃ a ob, v = .ref a ∧ ρ[i]? = some a ∧ st.heap.get? a = some ob ∧ ORel C ρ ob o := by
  obtain ⟨a, ob, q, g, r', _⟩ := O.1.obj i _ e
  obtain ⟨a', q', rfl⟩ := r
  rw [q] at q'; cases q'
  exact ⟨a, ob, rfl, q, g, r'⟩
theorem Ok.obj' {s : VS} {ρ : List Addr} {st : Shared} {i : Nat} {o : AO} {a : Addr} (O : Ok C s ρ st) (e : s.get i = some o) (q : ρ[i]? = some a) :
    ∃ ob, st.heap.get? a = some ob ∧ ORel C ρ ob o := by
  obtain ⟨a', ob, q', g, r', _⟩ := O.1.obj i _ e
  rw [q] at q'; cases q'
  exact ⟨ob, g, r'⟩
theorem edictAt_some {s : VS} {d : Nat} {u : Unit} (h : edictAt s d = some u) : ∃ j, s.get d = some (.edict j) := by
  unfold edictAt at h
  split at h
  · exact ⟨_, by assumption⟩
  · cases h
theorem dictAt_of {h : Heap} {a : Addr} (g : h.get? a = some { cls := .type "dict", data := .dict #[] }) : h.DictAt (intKind C.prog C.w) a [] 0 :=
  ⟨_, #[], g, ⟨rfl, rfl, rfl⟩, rfl, fun _ he => by simp at he, Pairs.nil, List.nodup_nil⟩
theorem small_range {n : Int} (h : small n = true) : Builtin.Range.small 0 n 1 = true ∧ Builtin.Range.rangeSize 0 n 1 = (n.toNat : Int) := by
  obtain ⟨a, b⟩ := small_some h
  have e : Builtin.Range.rangeSize 0 n 1 = (n.toNat : Int) := by
    unfold Builtin.Range.rangeSize
    by_cases hn : 0 < n
    · simp [hn]; omega
    · simp [hn]; omega
  refine ⟨?_, e⟩
  unfold Builtin.Range.small
  rw [e]
  unfold Builtin.Range.rangeFitsLong
  simp only [Bool.and_eq_true, Bool.or_eq_true, beq_iff_eq, decide_eq_true_eq]
  simp
  omega
theorem iter_ok {A : Around} {s s' : VS} {ρ : List Addr} {st : Shared} {x it : AV} {v : Value} (h : iterA s x = some (it, s')) (O : Ok C s ρ st) (r : VRel C ρ x v) (Ex) :
    wpAny (M C) A (pyIter v) (PV C ρ s' it) Ex st := by
  unfold iterA at h
  cases x with
  | ref i =>
    dsimp only at h
    unfold iterO at h
    cases e : s.get i with
    | none => rw [e] at h; cases h
    | some o =>
      rw [e] at h
      cases o with
      | list xs =>
        cases h
        obtain ⟨a, vs, n, rfl, q, g, al⟩ := O.list e r
        exact wpAny_pyIter_list (isList_of g) (O.pushV fun b => ⟨rfl, a, pre_get (List.prefix_append ..) q, rfl⟩)
      | tuple xs =>
        cases h
        obtain ⟨a, vs, n, rfl, q, g, al⟩ := O.tuple e r
        exact wpAny_pyIter_tuple (isTup_of g) (O.pushV fun b => ⟨rfl, a, pre_get (List.prefix_append ..) q, rfl⟩)
      | range n =>
        cases h
        obtain ⟨a, ob, rfl, q, g, sm, t, u, v, rfl⟩ := O.obj (o := .range n) e r
        obtain ⟨s1, s2⟩ := small_range sm
        exact wpAny_pyIter_range g s1 (O.pushV (o := .rit 0 n.toNat) fun b => by rw [s2]; rfl)
      | eitems d =>
        obtain ⟨u, hu, h⟩ := andThen_some h
        cases h
        obtain ⟨a, ob, rfl, q, g, c, b, qb, hd⟩ := O.obj (o := .eitems d) e r
        obtain ⟨j, ej⟩ := edictAt_some hu
        obtain ⟨ob', g', rfl, _⟩ := O.obj' (o := .edict j) ej qb
        exact wpAny_pyIter_items (knd := intKind C.prog C.w) ⟨ob, g, c, hd⟩ (dictAt_of g') (O.pushV (o := .eiter d) fun _ => ⟨b, pre_get (List.prefix_append ..) qb, rfl⟩)
      | _ => cases h
  | _ => cases h
theorem iterC_some {s : VS} {x : AV} {p : AV × VS} (h : iterC s x = some p) : iterA s x = some p ∧ ∀ i d, x = .ref i → s.get i ≠ some (.eitems d) := by
  unfold iterC at h
  split at h
  · split at h
    · cases h
    · rename_i n
      exact ⟨h, fun i d e q => by cases e; exact n _ q⟩
  · cases h

/-! the next item -/
theorem Ok.put {s : VS} {ρ : List Addr} {st : Shared} {h' : Heap} {ob : Obj} {o o₀ : AO} {i : Nat} {a : Addr} (O : Ok C s ρ st) (e₀ : s.get i = some o₀) (ea : ρ[i]? = some a) (g : h'.get? a = some ob) (k : Heap.ExtBut a st.heap h') (r : ORel C ρ ob o) : Ok C (s.put i o) ρ { st with heap := h' } :=
  O.heap (O.1.put e₀ ea g k r)
theorem Ok.del {s : VS} {ρ : List Addr} {st : Shared} {h' : Heap} {o₀ : AO} {i : Nat} {a : Addr} (O : Ok C s ρ st) (e₀ : s.get i = some o₀) (ea : ρ[i]? = some a) (k : Heap.ExtBut a st.heap h') : Ok C (s.del i) ρ { st with heap := h' } :=
  O.heap (O.1.del e₀ ea k)
/-- what a drawn item bears -/
def OptA (C : Cx) (ρ : List Addr) : Option AV → Option Value → Prop
  | none, v => v = none
  | some x, v => ∃ w, v = some w ∧ VRel C ρ x w
theorem next_ok {A : Around} {s s' : VS} {ρ : List Addr} {st : Shared} {it : AV} {x : Option AV} {v : Value} (hA : A.handled = none) (h : nextA s it = some (x, s')) (O : Ok C s ρ st) (r : VRel C ρ it v) (Ex) :
    wpAny (M C) A (pyNext v) (Post C ρ s' fun ρ' w => OptA C ρ' x w) Ex st := by
  unfold nextA at h
  cases it with
  | ref i =>
    dsimp only at h
    unfold nextO at h
    cases e : s.get i with
    | none => rw [e] at h; cases h
    | some o =>
      rw [e] at h
      cases o with
      | lit l k =>
        obtain ⟨xs, hx, h⟩ := andThen_some h
        obtain ⟨l', el, e'⟩ := listAt_some hx
        cases el
        obtain ⟨a, ob, rfl, q, g, c, b, qb, hd⟩ := O.obj (o := .lit l k) e r
        obtain ⟨b', vs, n, eb, qb', gb, al⟩ := O.list e' ⟨b, qb, rfl⟩
        cases eb
        unfold stepA at h
        split at h
        · rename_i y hy
          cases h
          obtain ⟨w, hw, rw'⟩ := al.nth hy
          refine wpAny_pyNext_list_item ⟨ob, g, c, hd⟩ (isList_of gb) (by simpa using hw) fun h' ⟨ob', g', c', hd'⟩ hs => ?_
          exact (O.put e q g' hs.extBut (o := .lit l (k + 1)) ⟨c', b, qb, hd'⟩).post ⟨w, rfl, rw'⟩
        · rename_i hy
          cases h
          rw [nth_eq] at hy
          refine wpAny_pyNext_list_end hA ⟨ob, g, c, hd⟩ (isList_of gb) (by simpa using al.none hy) fun h' hs => ?_
          exact (O.del e q hs).post rfl
      | tit l k =>
        obtain ⟨xs, hx, h⟩ := andThen_some h
        obtain ⟨l', el, e'⟩ := tupAt_some hx
        cases el
        obtain ⟨a, ob, rfl, q, g, c, b, qb, hd⟩ := O.obj (o := .tit l k) e r
        obtain ⟨b', vs, n, eb, qb', gb, al⟩ := O.tuple e' ⟨b, qb, rfl⟩
        cases eb
        unfold stepA at h
        split at h
        · rename_i y hy
          cases h
          obtain ⟨w, hw, rw'⟩ := al.nth hy
          refine wpAny_pyNext_tuple_item ⟨ob, g, c, hd⟩ (isTup_of gb) (by simpa using hw) fun h' ⟨ob', g', c', hd'⟩ hs => ?_
          exact (O.put e q g' hs.extBut (o := .tit l (k + 1)) ⟨c', b, qb, hd'⟩).post ⟨w, rfl, rw'⟩
        · rename_i hy
          cases h
          rw [nth_eq] at hy
          refine wpAny_pyNext_tuple_end hA ⟨ob, g, c, hd⟩ (isTup_of gb) (by simpa using al.none hy) fun h' hs => ?_
          exact (O.del e q hs).post rfl
      | rit y n =>
        obtain ⟨a, ob, rfl, q, g, rfl⟩ := O.obj (o := .rit y n) e r
        cases n with
        | zero =>
          cases h
          refine wpAny_pyNext_range_end hA g (by simp) fun h' hs => ?_
          exact (O.del e q hs).post rfl
        | succ n =>
          cases h
          refine wpAny_pyNext_range_item g (by omega) fun h' g' hs => ?_
          have e1 : ((n + 1 : Nat) : Int) - 1 = n := by omega
          rw [e1] at g'
          exact ((O.put e q g' hs.extBut (o := .rit (y + 1) n) rfl).tok _).post ⟨_, rfl, _, rfl⟩
      | eiter d =>
        obtain ⟨u, hu, h⟩ := andThen_some h
        cases h
        obtain ⟨a, ob, rfl, q, g, b, qb, rfl⟩ := O.obj (o := .eiter d) e r
        obtain ⟨j, ej⟩ := edictAt_some hu
        obtain ⟨ob', g', rfl, _⟩ := O.obj' (o := .edict j) ej qb
        refine wpAny_pyNext_items_end (knd := intKind C.prog C.w) (kvs := []) (i := 0) hA g (dictAt_of g') rfl fun h' hs => ?_
        exact (O.del e q hs).post rfl
      | _ => cases h
  | _ => cases h
end
end Mine

namespace Mine
section
open PySem PySem.W PyProof.Rows PySem.Calls PySem.Spec
variable {C : Cx}

def BI.val : BI → Value
  | .len => .builtin "len"
  | .sum => .builtin "sum"
  | .range => .type "range"
  | .str => .type "str"
  | .int => .type "int"
  | .zip => .type "zip"
  | .list => .type "list"
  | .type => .type "type"
theorem ofS {a b : String} (h : Str.ofString a = (b : Str)) : a = b := ofString_inj h
theorem biOf_some {f : Value} {b : BI} (h : biOf f = some b) : f = b.val := by
  unfold biOf at h
  split at h
  · have m := lookS_mem h
    simp only [biT, List.mem_cons, Prod.mk.injEq, List.not_mem_nil, or_false] at m
    rcases m with ⟨e, rfl⟩ | ⟨e, rfl⟩ <;> rw [ofS e] <;> rfl
  · have m := lookS_mem h
    simp only [tyT, List.mem_cons, Prod.mk.injEq, List.not_mem_nil, or_false] at m
    rcases m with ⟨e, rfl⟩ | ⟨e, rfl⟩ | ⟨e, rfl⟩ | ⟨e, rfl⟩ | ⟨e, rfl⟩ | ⟨e, rfl⟩ <;> rw [ofS e] <;> rfl
  · cases h
theorem AllV.one {ρ : List Addr} {args : List AV} {vs : List Value} {x : AV} (r : AllV C ρ args vs) (h : Mine.one args = some x) : ∃ v, vs = [v] ∧ VRel C ρ x v := by
  unfold Mine.one at h
  split at h
  · cases h
    cases r with
    | cons a b => cases b; exact ⟨_, rfl, a⟩
  · cases h
theorem AllV.two {ρ : List Addr} {args : List AV} {vs : List Value} {p : AV × AV} (r : AllV C ρ args vs) (h : Mine.two args = some p) : ∃ v w, vs = [v, w] ∧ VRel C ρ p.1 v ∧ VRel C ρ p.2 w := by
  unfold Mine.two at h
  split at h
  · cases h
    cases r with
    | cons a b => cases b with
      | cons b c => cases c; exact ⟨_, _, rfl, a, b⟩
  · cases h
theorem len_ok {A : Around} {s s' : VS} {ρ : List Addr} {st : Shared} {x r : AV} {v : Value} (h : lenB s x = some (r, s')) (O : Ok C s ρ st) (rv : VRel C ρ x v) (Ex) :
    wpAny (M C) A (call (.builtin "len") [v]) (PV C ρ s' r) Ex st := by
  unfold lenB at h
  cases x with
  | ref i =>
    obtain ⟨hy, es⟩ := give_some h
    subst es
    cases e : s'.get i with
    | none => rw [e] at hy; cases hy
    | some o =>
      rw [e] at hy
      unfold lenO at hy
      cases o with
      | list xs =>
        dsimp only at hy
        split at hy
        · rename_i hf
          have hf := few_some hf
          cases hy
          obtain ⟨a, vs, n, rfl, q, g, al⟩ := O.list e rv
          exact call_len_list (isList_of g) (by rw [List.size_toArray, al.length]; omega) (((O.tok _).post ⟨_, by rw [List.size_toArray, al.length]⟩))
        · cases hy
      | tuple xs =>
        dsimp only at hy
        split at hy
        · rename_i hf
          have hf := few_some hf
          cases hy
          obtain ⟨a, vs, n, rfl, q, g, al⟩ := O.tuple e rv
          exact len_tuple (isTup_of g) (by rw [List.size_toArray, al.length]; omega) (((O.tok _).post ⟨_, by rw [List.size_toArray, al.length]⟩))
        · cases hy
      | _ => cases hy
  | _ => cases h
theorem range_ok {A : Around} {s s' : VS} {ρ : List Addr} {st : Shared} {x r : AV} {v : Value} (h : rangeB s x = some (r, s')) (O : Ok C s ρ st) (rv : VRel C ρ x v) (Ex) :
    wpAny (M C) A (call (.type "range") [v]) (PV C ρ s' r) Ex st := by
  unfold rangeB at h
  cases x with
  | int n =>
    dsimp only at h
    split at h
    · rename_i hs
      cases h
      obtain ⟨t, rfl⟩ := rv
      exact call_range_1 ((O.tok (st.toks + 1 + 1)).pushV (o := .range n) fun a => ⟨hs, _, _, _, rfl⟩)
    · cases h
  | _ => cases h
theorem type_ok {A : Around} {s s' : VS} {ρ : List Addr} {st : Shared} {x r : AV} {v : Value} (h : typeB s x = some (r, s')) (O : Ok C s ρ st) (rv : VRel C ρ x v) (Ex) :
    wpAny (M C) A (call (.type "type") [v]) (PV C ρ s' r) Ex st := by
  unfold typeB at h
  cases x with
  | str x =>
    cases h
    obtain ⟨t, rfl⟩ := rv
    exact call_type_of (typeIs_str _ _ _) (by decide) (O.post rfl)
  | ref i =>
    obtain ⟨xs, hx, h⟩ := andThen_some h
    cases h
    obtain ⟨i', ei, e⟩ := listAt_some hx
    cases ei
    obtain ⟨a, vs, n, rfl, q, g, al⟩ := O.list e rv
    exact call_type_of (isList_of g).typeIs (by decide) (O.post rfl)
  | _ => cases h
theorem sumA_ints {ρ : List Addr} : ∀ {xs : List AV} {vs : List Value} {n : Int}, sumA xs = some n → AllV C ρ xs vs → ∃ ns : List Int, IntsAre vs ns ∧ ns.sum = n := by
  intro xs
  induction xs with
  | nil => intro vs n h r; cases h; cases r; exact ⟨[], .nil, rfl⟩
  | cons x xs ih =>
    intro vs n h r
    cases r with
    | cons a r =>
      unfold sumA at h
      cases x with
      | int i =>
        obtain ⟨j, hj, h⟩ := andThen_some h
        cases h
        obtain ⟨ns, hi, rfl⟩ := ih hj r
        obtain ⟨t, rfl⟩ := a
        exact ⟨i :: ns, .cons _ _ hi, by simp⟩
      | _ => cases h
theorem sum_ok {A : Around} {s s' : VS} {ρ : List Addr} {st : Shared} {x r : AV} {v : Value} (hA : A.handled = none) (h : sumB s x = some (r, s')) (O : Ok C s ρ st) (rv : VRel C ρ x v) (Ex) :
    wpAny (M C) A (call (.builtin "sum") [v]) (PV C ρ s' r) Ex st := by
  obtain ⟨xs, hx, h⟩ := andThen_some h
  obtain ⟨n, hn, h⟩ := andThen_some h
  cases h
  obtain ⟨i, rfl, e⟩ := listAt_some hx
  obtain ⟨a, vs, m, rfl, q, g, al⟩ := O.list e rv
  obtain ⟨ns, hi, rfl⟩ := sumA_ints hn al
  have hl := isList_of g
  obtain ⟨ys, hy⟩ := hi.allInts.items
  have e2 : vs = (intItems ys).toList := by rw [← hy]
  have hs : ns.sum = preSum (numAt ys) ys.size := by
    rw [← hi.numsOf, e2]
    have := nums_intItems ys
    rw [preSum_eq, List.take_of_length_le (by simp), this]
  rw [hy] at hl
  refine sum_intListG hA hl fun h' tk t' hk => ?_
  rw [hs]
  exact ((O.heap (O.1.keeps hk)).tok tk).post ⟨t', rfl⟩
theorem str_ok {A : Around} {s s' : VS} {ρ : List Addr} {st : Shared} {x r : AV} {v : Value} (h : strB s x = some (r, s')) (O : Ok C s ρ st) (rv : VRel C ρ x v) (Ex) :
    wpAny (M C) A (call (.type "str") [v]) (PV C ρ s' r) Ex st := by
  unfold strB at h
  cases x with
  | int n =>
    obtain ⟨y, hy, h⟩ := andThen_some h
    cases h
    obtain ⟨t, rfl⟩ := rv
    have m := lookI_mem hy
    simp only [strT, List.mem_cons, Prod.mk.injEq, List.not_mem_nil, or_false] at m
    refine str_of_int_fit (N := 1000) (by rcases m with ⟨rfl, _⟩ | ⟨rfl, _⟩ | ⟨rfl, _⟩ <;> decide) (by decide) fun _ => ?_
    refine (O.tok _).post ⟨st.toks, ?_⟩
    rcases m with ⟨rfl, rfl⟩ | ⟨rfl, rfl⟩ | ⟨rfl, rfl⟩ <;> rfl
  | _ => cases h
theorem int_ok {A : Around} {s s' : VS} {ρ : List Addr} {st : Shared} {x r : AV} {v : Value} (h : intB s x = some (r, s')) (O : Ok C s ρ st) (rv : VRel C ρ x v) (Ex) :
    wpAny (M C) A (call (.type "int") [v]) (PV C ρ s' r) Ex st := by
  unfold intB at h
  cases x with
  | str y =>
    obtain ⟨n, hy, h⟩ := andThen_some h
    cases h
    obtain ⟨t, rfl⟩ := rv
    have m := lookS_mem hy
    simp only [intT, List.mem_cons, Prod.mk.injEq, List.not_mem_nil, or_false] at m
    refine PySem.W.KIN.call_text (n := n) ?_ ?_ ((O.tok _).post ⟨_, rfl⟩)
    · rcases m with ⟨rfl, rfl⟩ | ⟨rfl, rfl⟩ | ⟨rfl, rfl⟩ <;> decide +kernel
    · rcases m with ⟨rfl, rfl⟩ | ⟨rfl, rfl⟩ | ⟨rfl, rfl⟩ <;> decide +kernel
  | _ => cases h
end
end Mine

namespace Mine
section
open PySem PySem.W PyProof.Rows PySem.Calls PySem.Spec
variable {C : Cx}

theorem quiet_all {f : Str → Bool} (h : (quietT.all fun p => f p.1) = true) {x : Str} {u : Unit} (e : lookS x quietT = some u) : f x = true :=
  List.all_eq_true.mp h _ (lookS_mem e)
set_option maxRecDepth 100000 in
/-- the receiver has it -/
theorem has_ok (G : Glob C) {A : Around} {s : VS} {ρ : List Addr} {st : Shared} {o : AV} {m : MI} {x : Str} {v : Value} {u : Unit} {pl : Sem Bool} {Q : Value × List Value → Shared → Prop}
    (hm : lookS x miT = some m) (h : mHas C.S s o m = some u) (O : Ok C s ρ st) (r : VRel C ρ o v) (hQ : Q (.builtin m.id, [v]) st) (Ex) :
    wpAny (M C) A (getMethod v x pl) Q Ex st := by
  have mem := lookS_mem hm
  simp only [miT, List.mem_cons, Prod.mk.injEq, List.not_mem_nil, or_false] at mem
  unfold mHas at h
  cases o with
  | str y =>
    obtain ⟨t, rfl⟩ := r
    rcases mem with ⟨rfl, rfl⟩ | ⟨rfl, rfl⟩ | ⟨rfl, rfl⟩ | ⟨rfl, rfl⟩ | ⟨rfl, rfl⟩ | ⟨rfl, rfl⟩ | ⟨rfl, rfl⟩
    · exact GM.lower hQ
    · exact GM.upper hQ
    · exact GM.join hQ
    all_goals cases h
  | ref i =>
    dsimp only at h
    cases e : s.get i with
    | none => rw [e] at h; cases h
    | some o =>
      rw [e] at h
      cases o with
      | list xs =>
        obtain ⟨a, vs, n, rfl, q, g, al⟩ := O.list e r
        rcases mem with ⟨rfl, rfl⟩ | ⟨rfl, rfl⟩ | ⟨rfl, rfl⟩ | ⟨rfl, rfl⟩ | ⟨rfl, rfl⟩ | ⟨rfl, rfl⟩ | ⟨rfl, rfl⟩
        case inr.inr.inr.inl => exact getMethod_list_append g rfl rfl hQ
        case inr.inr.inr.inr.inl => exact getMethod_builtin (isList_of g).typeIs F.plainAttrs_list F.slot_list_insert F.type_list_insert (fun b e => by cases e; exact ⟨_, g, rfl⟩) hQ
        all_goals cases h
      | edict j =>
        obtain ⟨a, ob, rfl, q, g, rfl, _⟩ := O.obj (o := .edict j) e r
        rcases mem with ⟨rfl, rfl⟩ | ⟨rfl, rfl⟩ | ⟨rfl, rfl⟩ | ⟨rfl, rfl⟩ | ⟨rfl, rfl⟩ | ⟨rfl, rfl⟩ | ⟨rfl, rfl⟩
        case inr.inr.inr.inr.inr.inl => exact getMethod_builtin ⟨_, g, rfl⟩ F.plainAttrs_dict F.slot_dict_items F.type_dict_items (fun b e => by cases e; exact ⟨_, g, rfl⟩) hQ
        all_goals cases h
      | _ => cases h
  | raw w =>
    cases r
    dsimp only at h
    unfold mRaw at h
    split at h
    · split at h
      · rename_i hp
        rcases mem with ⟨rfl, rfl⟩ | ⟨rfl, rfl⟩ | ⟨rfl, rfl⟩ | ⟨rfl, rfl⟩ | ⟨rfl, rfl⟩ | ⟨rfl, rfl⟩ | ⟨rfl, rfl⟩
        case inr.inr.inr.inr.inr.inr =>
          rcases G.pat _ hp with ⟨a, t, c, vs, n, g, _⟩ | ⟨a, t, c, vs, n, g, _⟩ <;>
          exact getMethod_builtin ⟨_, O.1.keep _ _ g, rfl⟩ plainAttrs_pat slot_search type_search (fun b e => by cases e; exact ⟨_, O.1.keep _ _ g, rfl⟩) hQ
        all_goals cases h
      · cases h
    · cases h
  | _ => cases h
theorem quiet_short {x : Str} {u : Unit} (e : lookS x quietT = some u) : x.cps.size ≤ 2 ^ 63 - 1 := by
  have := quiet_all (f := fun x => decide (x.cps.size ≤ 100)) (by decide +kernel) e
  have := of_decide_eq_true this
  omega
theorem lowT_ok : (lowT.all fun p => decide (Txt.lower p.1 = p.2 ∧ p.1.length ≤ 100)) = true := by decide +kernel
theorem upT_ok : (upT.all fun p => decide (Txt.upper p.1 = p.2 ∧ p.1.length ≤ 100)) = true := by decide +kernel
theorem app_ok {A : Around} {s s' : VS} {ρ : List Addr} {st : Shared} {i : Nat} {xs : List AV} {x r : AV} {v w : Value} (h : appA s i xs x = some (r, s')) (e : s.get i = some (.list xs)) (O : Ok C s ρ st) (rv : VRel C ρ (.ref i) v) (rw' : VRel C ρ x w) (Ex) :
    wpAny (M C) A (call (.builtin "list.append") [v, w]) (PV C ρ s' r) Ex st := by
  unfold appA at h
  split at h
  · rename_i hf
    have hf := few_some hf
    cases h
    obtain ⟨a, vs, n, rfl, q, g, al⟩ := O.list e rv
    refine append_at g (fun h' hs g' => ?_) (by rw [List.size_toArray, al.length]; exact few_line (by omega))
    exact (O.put e q g' hs.extBut (o := .list (xs ++ [x])) ⟨vs ++ [w], n + 1, by simp [seqO], al.append (.cons rw' .nil)⟩).post rfl
  · cases h
theorem AllV.nil' {ρ : List Addr} {vs : List Value} (r : AllV C ρ [] vs) : vs = [] := by cases r; rfl
theorem insA_some {xs l : List AV} {k : Int} {y : AV} (h : insA xs k y = some l) : 0 ≤ k ∧ k.toNat ≤ xs.length ∧ l = xs.take k.toNat ++ y :: xs.drop k.toNat := by
  unfold insA at h
  split at h
  · rename_i e
    split at h
    · rename_i e'
      cases h
      exact ⟨of_decide_eq_true e, of_decide_eq_true e', rfl⟩
    · cases h
  · cases h
theorem ins_ok {A : Around} {s : VS} {ρ : List Addr} {st : Shared} {i : Nat} {xs l : List AV} {k : Int} {y : AV} {v w z : Value} (h : insA xs k y = some l) (hf : few xs = true) (e : s.get i = some (.list xs)) (O : Ok C s ρ st)
    (rv : VRel C ρ (.ref i) v) (rk : VRel C ρ (.int k) w) (ry : VRel C ρ y z) (Ex) :
    wpAny (M C) A (call (.builtin "list.insert") [v, w, z]) (PV C ρ (s.put i (.list l)) .none) Ex st := by
  have hf := few_some hf
  obtain ⟨h0, h1, rfl⟩ := insA_some h
  obtain ⟨a, vs, n, rfl, q, g, al⟩ := O.list e rv
  obtain ⟨t, rfl⟩ := rk
  have hlen := al.length
  refine call_meets F.slot_list_insert (isList_of g).typeIs F.entry_list_insert (F.args_list_insert_3 _ _ _)
    (PySem.AutoSeq1.list_insert_list_int_val_1 a vs.toArray n k t z (by rw [fitsIndex_of h0 (by omega)]; decide) (by rw [List.size_toArray, hlen]; exact few_line (by omega))) ⟨g, ?_⟩
  have g' := Heap.get?_update_self (Obj.mapSeq fun xs => have k := if k < 0 then (k + (xs.size : Int)).toNat else min k.toNat xs.size; (xs.extract 0 k).push z ++ xs.extract k) g rfl
  refine (O.put e q g' (Heap.SameBut.update ..).extBut (o := .list (xs.take k.toNat ++ y :: xs.drop k.toNat)) ?_).post rfl
  have hk : (if k < 0 then (k + (vs.toArray.size : Int)).toNat else min k.toNat vs.toArray.size) = k.toNat := by
    rw [if_neg (by omega), List.size_toArray, hlen, Nat.min_eq_left h1]
  refine ⟨vs.take k.toNat ++ z :: vs.drop k.toNat, n + 1, ?_, (al.take _).append (.cons ry (al.drop _))⟩
  simp only [Obj.mapSeq, hk, seqO]
  have ea : (vs.toArray.extract 0 k.toNat).push z ++ vs.toArray.extract k.toNat = (vs.take k.toNat ++ z :: vs.drop k.toNat).toArray := by
    simp
    exact List.take_of_length_le (by simp)
  rw [ea]
  have hne : (vs.take k.toNat ++ z :: vs.drop k.toNat).toArray.size ≠ vs.toArray.size := by
    rw [List.size_toArray, List.size_toArray, List.length_append, List.length_cons, List.length_take, List.length_drop]
    omega
  rw [if_neg (by simpa using hne)]
/-- a method's call -/
theorem meth_ok (G : Glob C) {A : Around} {s s' : VS} {ρ : List Addr} {st : Shared} {o r : AV} {m : MI} {args : List AV} {v : Value} {vs : List Value}
    (h : methB C.S s o m args = some (r, s')) (O : Ok C s ρ st) (rv : VRel C ρ o v) (al : AllV C ρ args vs) (Ex) :
    wpAny (M C) A (call (.builtin m.id) (v :: vs)) (PV C ρ s' r) Ex st := by
  unfold methB at h
  cases o with
  | str x =>
    obtain ⟨t, rfl⟩ := rv
    dsimp only at h
    unfold methS at h
    cases m with
    | lower =>
      cases args with
      | nil =>
        cases al.nil'
        obtain ⟨y, hy, h⟩ := andThen_some h
        cases h
        have f := of_decide_eq_true (List.all_eq_true.mp lowT_ok _ (lookS_mem hy))
        refine PyProof.Rows.SCL.lower (by have := f.2; dsimp only at this; omega) fun _ => (O.tok _).post ⟨st.toks, ?_⟩
        exact congrArg (Value.str · st.toks) f.1
      | cons a b => cases h
    | upper =>
      cases args with
      | nil =>
        cases al.nil'
        obtain ⟨y, hy, h⟩ := andThen_some h
        cases h
        have f := of_decide_eq_true (List.all_eq_true.mp upT_ok _ (lookS_mem hy))
        refine PyProof.Rows.SCL.upper (by have := f.2; dsimp only at this; omega) fun _ => (O.tok _).post ⟨st.toks, ?_⟩
        exact congrArg (Value.str · st.toks) f.1
      | cons a b => cases h
    | join =>
      obtain ⟨l, hl, h1⟩ := andThen_some h
      clear h
      obtain ⟨xs, hx, h⟩ := andThen_some h1
      clear h1
      obtain ⟨w, rfl, rw'⟩ := al.one hl
      obtain ⟨i, el, e⟩ := listAt_some hx
      subst el
      obtain ⟨a, us, n, rfl, q, g, al'⟩ := O.list e rw'
      split at h
      · rename_i y
        obtain ⟨u, hu, h2⟩ := andThen_some h
        clear h
        split at h2
        · rename_i hx
          cases h2
          rw [seq_eq] at hx
          cases beq_iff_eq.mp hx
          cases al' with
          | cons a1 a2 =>
            cases a2
            obtain ⟨t', rfl⟩ := a1
            have f := quiet_all (f := fun y => decide (Txt.join "; " [y] = y ∧ JoinOk "; " [y] = true)) (by decide +kernel) hu
            have f := of_decide_eq_true f
            refine SC.join (l := [(y, t')]) (texts := [y]) (isList_of g) rfl f.2 fun t'' k => (O.tok _).post ⟨t'', ?_⟩
            exact congrArg (Value.str · t'') f.1
        · cases h2
      · cases h
    | _ => cases h
  | ref i =>
    dsimp only at h
    unfold methO at h
    cases e : s.get i with
    | none => rw [e] at h; cases h
    | some o =>
      rw [e] at h
      cases o with
      | list xs =>
        cases m with
        | append =>
          obtain ⟨x, hx, h⟩ := andThen_some h
          obtain ⟨w, rfl, rw'⟩ := al.one hx
          exact app_ok h e O rv rw' _
        | insert =>
          obtain ⟨p, hp, h⟩ := andThen_some h
          obtain ⟨w, z, rfl, rk, ry⟩ := al.two hp
          split at h
          · rename_i k ek
            split at h
            · rename_i hf
              obtain ⟨l, hl, h⟩ := andThen_some h
              cases h
              rw [ek] at rk
              exact ins_ok hl hf e O rv rk ry _
            · cases h
          · cases h
        | _ => cases h
      | edict j =>
        cases m with
        | items =>
          cases args with
          | nil =>
            cases al.nil'
            dsimp only at h
            split at h
            rotate_left
            · cases h
            rename_i hj
            have hj := Nat.eq_of_beq_eq_true hj
            subst hj
            cases h
            obtain ⟨a, ob, rfl, q, g, rfl, a', q', ns⟩ := O.obj (o := .edict j) e rv
            rw [q] at q'; cases q'
            refine call_meetsIn F.slot_dict_items ⟨_, g, rfl⟩ F.entry_dict_items (F.args_dict_items_1 _) (meets_dict_items (intKind C.prog C.w) a ?_) ⟨⟨[], ?_⟩, ?_⟩
            · exact beq_eq_false_iff_ne.mpr ns
            · exact ⟨_, #[], 0, g, ⟨rfl, rfl, rfl⟩, rfl, fun _ he => by simp at he, Pairs.nil, List.nodup_nil⟩
            · exact O.pushV (o := .eitems j) fun b => ⟨rfl, a, pre_get (List.prefix_append ..) q, rfl⟩
          | cons a b => cases h
        | _ => cases h
      | _ => cases h
  | raw w =>
    cases rv
    dsimp only at h
    unfold methR at h
    split at h
    · split at h
      · rename_i hp
        split at h
        · obtain ⟨x, hx, h⟩ := andThen_some h
          split at h
          · obtain ⟨u, hu, h⟩ := andThen_some h
            cases h
            obtain ⟨w, rfl, t, rfl⟩ := al.one hx
            rcases G.pat _ hp with hp | hp <;> obtain ⟨a, t', c, vs, n, g, gc, hv⟩ := hp
            · exact search_ok ⟨a, t', c, vs, n, O.1.keep _ _ g, O.1.keep _ _ gc, hv⟩ (quiet_all quietN hu) (quiet_short hu) (O.post rfl)
            · exact search_ok ⟨a, t', c, vs, n, O.1.keep _ _ g, O.1.keep _ _ gc, hv⟩ (quiet_all quietV hu) (quiet_short hu) (O.post rfl)
          · cases h
        · cases h
      · cases h
    · cases h
  | _ => cases h
end
end Mine

namespace Mine
section
open PySem PySem.W PyProof.Rows PySem.Calls PySem.Spec
set_option maxRecDepth 100000
section
variable {prog : Program} {w : World} {A : Around} {E : Value → Shared → Prop} {s : Shared}
theorem wpAny_alive {a : Addr} {Q : Option Obj → Shared → Prop} (h : Q (s.heap.get? a) s) : wpAny (model prog w) A (loadIfAlive a) Q E s :=
  fun Γ p _ => by unfold loadIfAlive; rw [Sem.wp_loadIfAlive]; exact (Sem.wp_pure ..).mpr h
abbrev IsZ (h : Heap) (z TI TO : Addr) (f0 f1 : Value) : Prop :=
  h.get? z = some { cls := .type "zip", dict := none, data := .fields #[f0, f1, .bool false, .ref TI, .ref TO], slots := #[] }

/-- a later item: the tuple handed out first is still there -/
theorem zip_later {z TI TO i1 i2 l1 l2 T : Addr} {k1 k2 : Nat} {xs ys : Array Value} {x y : Value} {b : Bool} {ot : Obj} {Q : Value → Shared → Prop} (D : ZipApart z TI TO i1 i2 l1 l2)
    (hz : IsZ s.heap z TI TO (rawInt T) (.bool b)) (hT : s.heap.get? T = some ot) (hTI : IsPair s.heap TI (.ref i1) (.ref i2))
    (h1 : s.heap.IsListIter i1 l1 k1) (h2 : s.heap.IsListIter i2 l2 k2) (hl1 : s.heap.IsList l1 xs) (hl2 : s.heap.IsList l2 ys) (hx : xs[k1]? = some x) (hy : ys[k2]? = some y)
    (hQ : ∀ h', IsZ h' z TI TO (rawInt T) (.bool true) → h'.IsListIter i1 l1 (k1 + 1) → h'.IsListIter i2 l2 (k2 + 1) → IsPair h' s.heap.objs.size x y → h'.objs.size = s.heap.objs.size + 1 →
      (∀ c o, c ≠ z → c ≠ i1 → c ≠ i2 → s.heap.get? c = some o → h'.get? c = some o) → Q (.ref s.heap.objs.size) { s with heap := h' }) :
    wpAny (model prog w) A (Builtin.«zip.__next__» ⟨[.ref z], []⟩) (fun fin s' => ∃ v, fin = .done (.ret v) ∧ Q v s') E s := by
  show wpAny _ _ (field (.ref z) 2 >>= _) _ _ _
  refine wpAny_bind (wpAny_field hz rfl (x := .bool false) rfl ?_)
  show wpAny _ _ (field (.ref z) 3 >>= _) _ _ _
  refine wpAny_bind (wpAny_field hz rfl (x := .ref TI) rfl ?_)
  refine wpAny_bind (wpAny_seqItems hTI rfl ?_)
  show wpAny _ _ (Builtin.SmallTypes.ownedTupleIsFree (.ref z) >>= _) _ _ _
  have free : ∀ {Q' : Bool → Shared → Prop}, (∀ h₁, IsZ h₁ z TI TO (rawInt T) (.bool true) → Heap.SameBut z s.heap h₁ → Q' false { s with heap := h₁ }) →
      wpAny (model prog w) A (Builtin.SmallTypes.ownedTupleIsFree (.ref z)) Q' E s := by
    intro Q' q
    unfold Builtin.SmallTypes.ownedTupleIsFree
    refine wpAny_bind (wpAny_field hz rfl (x := rawInt T) rfl ?_)
    show wpAny _ _ (loadIfAlive (T : Int).toNat >>= _) _ _ _
    refine wpAny_bind (wpAny_alive ?_)
    rw [Int.toNat_natCast, hT]
    simp only [Option.isNone_some, Bool.false_eq_true, if_false]
    refine wpAny_bind (wpAny_field hz rfl (x := .bool b) rfl ?_)
    cases b with
    | true =>
      rw [if_neg (by decide)]
      refine wpAny_bind (wpAny_pure (wpAny_pure ?_))
      exact q s.heap hz (Heap.SameBut.refl ..)
    | false =>
      rw [if_pos (by decide)]
      refine wpAny_bind (wpAny_setField_rec hz (by simp) fun h₁ hz₁ hs₁ => wpAny_pure (q h₁ hz₁ hs₁))
  refine wpAny_bind (free fun h₁ hz₁ hs₁ => ?_)
  simp only [Bool.false_eq_true, if_false]
  refine wpAny_bind ?_
  rw [← Array.forIn_toList]
  simp only [List.forIn_cons, List.forIn_nil]
  refine wpAny_bind (wpAny_bind (wpAny_holding ?_))
  show wpAny _ _ (Builtin.SmallTypes.nextOf (.ref i1) >>= _) _ _ _
  refine wpAny_bind (wpAny_nextOf_list_item (h1.extBut hs₁.extBut D.i1z) (hl1.extBut hs₁.extBut D.l1z) hx fun h₂ h1₂ hs₂ => wpAny_pure ?_)
  refine wpAny_pure ?_
  refine wpAny_bind (wpAny_bind (wpAny_holding ?_))
  show wpAny _ _ (Builtin.SmallTypes.nextOf (.ref i2) >>= _) _ _ _
  refine wpAny_bind (wpAny_nextOf_list_item ((h2.extBut hs₁.extBut D.i2z).extBut hs₂.extBut D.i12.symm) ((hl2.extBut hs₁.extBut D.l2z).extBut hs₂.extBut D.l2i1) hy fun h₃ h2₃ hs₃ => wpAny_pure ?_)
  refine wpAny_pure (wpAny_pure ?_)
  refine wpAny_bind (wpAny_newTuple ?_ (hsz := by show 2 ≤ sizeLine; exact few_line (by decide)))
  have hsz : h₃.objs.size = s.heap.objs.size := by rw [hs₃.1, hs₂.1, hs₁.1]
  have keep : ∀ c o, c ≠ z → c ≠ i1 → c ≠ i2 → s.heap.get? c = some o → h₃.get? c = some o := fun c o c1 c2 c3 e =>
    hs₃.extBut _ _ c3 (hs₂.extBut _ _ c2 (hs₁.extBut _ _ c1 e))
  have up : ∀ c o, h₃.get? c = some o → (h₃.push { cls := .type "tuple", data := .seq #[x, y] }).get? c = some o := fun c o e => Heap.get?_push_of_some _ e
  have hz₃ : IsZ h₃ z TI TO (rawInt T) (.bool true) := hs₃.extBut _ _ D.i2z.symm (hs₂.extBut _ _ D.i1z.symm hz₁)
  have hT₄ : IsPair (h₃.push { cls := .type "tuple", data := .seq #[x, y] }) s.heap.objs.size x y := by
    rw [← hsz]; exact Heap.get?_push_size _ rfl
  refine wpAny_pure ⟨_, rfl, ?_⟩
  show Q (.ref h₃.objs.size) _
  rw [hsz]
  exact hQ _ (up _ _ hz₃) ((h1₂.extBut hs₃.extBut D.i12).at fun o e => up _ o e) (h2₃.at fun o e => up _ o e) hT₄ (by rw [Heap.size_push, hsz]) fun c o c1 c2 c3 e => up c o (keep c o c1 c2 c3 e)

theorem zip_later_end {z TI TO i1 i2 l1 l2 T : Addr} {k1 k2 : Nat} {xs ys : Array Value} {b : Bool} {ot : Obj} {Q : Fin → Shared → Prop} (hh : A.handled = none) (D : ZipApart z TI TO i1 i2 l1 l2)
    (hz : IsZ s.heap z TI TO (rawInt T) (.bool b)) (hT : s.heap.get? T = some ot) (hTI : IsPair s.heap TI (.ref i1) (.ref i2))
    (h1 : s.heap.IsListIter i1 l1 k1) (h2 : s.heap.IsListIter i2 l2 k2) (hl1 : s.heap.IsList l1 xs) (hl2 : s.heap.IsList l2 ys) (hend : xs[k1]? = none ∨ ys[k2]? = none)
    (hE : ∀ h' e, (∀ c o, c ≠ z → c ≠ i1 → c ≠ i2 → s.heap.get? c = some o → h'.get? c = some o) → (∃ o, h'.get? e = some o ∧ o.cls = .type "StopIteration") → E (.ref e) { s with heap := h' }) :
    wpAny (model prog w) A (Builtin.«zip.__next__» ⟨[.ref z], []⟩) Q E s := by
  show wpAny _ _ (field (.ref z) 2 >>= _) _ _ _
  refine wpAny_bind (wpAny_field hz rfl (x := .bool false) rfl ?_)
  show wpAny _ _ (field (.ref z) 3 >>= _) _ _ _
  refine wpAny_bind (wpAny_field hz rfl (x := .ref TI) rfl ?_)
  refine wpAny_bind (wpAny_seqItems hTI rfl ?_)
  show wpAny _ _ (Builtin.SmallTypes.ownedTupleIsFree (.ref z) >>= _) _ _ _
  have free : ∀ {Q' : Bool → Shared → Prop}, (∀ h₁, IsZ h₁ z TI TO (rawInt T) (.bool true) → Heap.SameBut z s.heap h₁ → Q' false { s with heap := h₁ }) →
      wpAny (model prog w) A (Builtin.SmallTypes.ownedTupleIsFree (.ref z)) Q' E s := by
    intro Q' q
    unfold Builtin.SmallTypes.ownedTupleIsFree
    refine wpAny_bind (wpAny_field hz rfl (x := rawInt T) rfl ?_)
    show wpAny _ _ (loadIfAlive (T : Int).toNat >>= _) _ _ _
    refine wpAny_bind (wpAny_alive ?_)
    rw [Int.toNat_natCast, hT]
    simp only [Option.isNone_some, Bool.false_eq_true, if_false]
    refine wpAny_bind (wpAny_field hz rfl (x := .bool b) rfl ?_)
    cases b with
    | true =>
      rw [if_neg (by decide)]
      refine wpAny_bind (wpAny_pure (wpAny_pure ?_))
      exact q s.heap hz (Heap.SameBut.refl ..)
    | false =>
      rw [if_pos (by decide)]
      refine wpAny_bind (wpAny_setField_rec hz (by simp) fun h₁ hz₁ hs₁ => wpAny_pure (q h₁ hz₁ hs₁))
  refine wpAny_bind (free fun h₁ hz₁ hs₁ => ?_)
  simp only [Bool.false_eq_true, if_false]
  refine wpAny_bind ?_
  rw [← Array.forIn_toList]
  simp only [List.forIn_cons, List.forIn_nil]
  refine wpAny_bind (wpAny_bind (wpAny_holding ?_))
  show wpAny _ _ (Builtin.SmallTypes.nextOf (.ref i1) >>= _) _ _ _
  cases hx : xs[k1]? with
  | none =>
    refine wpAny_bind (wpAny_nextOf_list_end hh (h1.extBut hs₁.extBut D.i1z) (hl1.extBut hs₁.extBut D.l1z) hx fun h₂ e hs₂ he => ?_)
    exact hE h₂ e (fun c o c1 c3 _ x => hs₂ _ _ c3 (hs₁.extBut _ _ c1 x)) he
  | some x =>
    have hy : ys[k2]? = none := by rcases hend with h | h; rw [hx] at h; cases h; exact h
    refine wpAny_bind (wpAny_nextOf_list_item (h1.extBut hs₁.extBut D.i1z) (hl1.extBut hs₁.extBut D.l1z) hx fun h₂ h1₂ hs₂ => wpAny_pure ?_)
    refine wpAny_pure ?_
    refine wpAny_bind (wpAny_bind (wpAny_holding ?_))
    show wpAny _ _ (Builtin.SmallTypes.nextOf (.ref i2) >>= _) _ _ _
    refine wpAny_bind (wpAny_nextOf_list_end hh ((h2.extBut hs₁.extBut D.i2z).extBut hs₂.extBut D.i12.symm) ((hl2.extBut hs₁.extBut D.l2z).extBut hs₂.extBut D.l2i1) hy fun h₃ e hs₃ he => ?_)
    exact hE h₃ e (fun c o c1 c2 c3 x => hs₃ _ _ c3 (hs₂.extBut _ _ c2 (hs₁.extBut _ _ c1 x))) he

/-- a zip object, before its first item or after it -/
def ZAt (h : Heap) (z TI TO i1 i2 S : Addr) : Prop :=
  IsZip h z TI TO .none ∨ ∃ T b ot, IsZ h z TI TO (rawInt (T : Nat)) (.bool b) ∧ h.get? T = some ot ∧ T ≠ z ∧ T ≠ TO ∧ T ≠ i1 ∧ T ≠ i2 ∧ T ≠ S
structure ZF (h : Heap) (z TI TO i1 i2 l1 l2 S : Addr) (k : Nat) (xs ys : Array Value) : Prop where
  zs : ZAt h z TI TO i1 i2 S
  ti : IsPair h TI (.ref i1) (.ref i2)
  to : ∃ a b, IsPair h TO a b
  h1 : h.IsListIter i1 l1 k
  h2 : h.IsListIter i2 l2 k
  hl1 : h.IsList l1 xs
  hl2 : h.IsList l2 ys
theorem ZF.typeIs {z TI TO i1 i2 l1 l2 S : Addr} {k : Nat} {xs ys : Array Value} (F : ZF s.heap z TI TO i1 i2 l1 l2 S k xs ys) : s.TypeIs (.ref z) "zip" := by
  rcases F.zs with h | ⟨_, _, _, h, _⟩
  · exact ⟨_, h, rfl⟩
  · exact ⟨_, h, rfl⟩
/-- a change of the list that is made -/
theorem ZF.but {h h' : Heap} {z TI TO i1 i2 l1 l2 S : Addr} {k : Nat} {xs ys : Array Value} (F : ZF h z TI TO i1 i2 l1 l2 S k xs ys) (hk : ∀ c o, c ≠ S → h.get? c = some o → h'.get? c = some o)
    (hS : z ≠ S ∧ TI ≠ S ∧ TO ≠ S ∧ i1 ≠ S ∧ i2 ≠ S ∧ l1 ≠ S ∧ l2 ≠ S) : ZF h' z TI TO i1 i2 l1 l2 S k xs ys where
  zs := by
    rcases F.zs with h | ⟨T, b, ot, q, t, r⟩
    · exact .inl (hk _ _ hS.1 h)
    · exact .inr ⟨T, b, ot, hk _ _ hS.1 q, hk _ _ r.2.2.2.2 t, r⟩
  ti := hk _ _ hS.2.1 F.ti
  to := let ⟨a, b, q⟩ := F.to; ⟨a, b, hk _ _ hS.2.2.1 q⟩
  h1 := F.h1.at fun o e => hk _ o hS.2.2.2.1 e
  h2 := F.h2.at fun o e => hk _ o hS.2.2.2.2.1 e
  hl1 := F.hl1.at fun o e => hk _ o hS.2.2.2.2.2.1 e
  hl2 := F.hl2.at fun o e => hk _ o hS.2.2.2.2.2.2 e
theorem zip_next {z TI TO i1 i2 l1 l2 S : Addr} {k : Nat} {xs ys : Array Value} {x y : Value} {Q : Option Value → Shared → Prop} (D : ZipApart z TI TO i1 i2 l1 l2)
    (F : ZF s.heap z TI TO i1 i2 l1 l2 S k xs ys) (hSlt : S < s.heap.objs.size) (hx : xs[k]? = some x) (hy : ys[k]? = some y)
    (hQ : ∀ h', ZF h' z TI TO i1 i2 l1 l2 S (k + 1) xs ys → IsPair h' s.heap.objs.size x y → h'.objs.size = s.heap.objs.size + 1 →
      (∀ c o, c ≠ z → c ≠ TO → c ≠ i1 → c ≠ i2 → s.heap.get? c = some o → h'.get? c = some o) → Q (some (.ref s.heap.objs.size)) { s with heap := h' }) :
    wpAny (model prog w) A (pyNext (.ref z)) Q E s := by
  have lt : ∀ {c o}, s.heap.get? c = some o → s.heap.objs.size ≠ c := fun e => Nat.ne_of_gt (Heap.lt_size e)
  obtain ⟨a, b, hTO⟩ := F.to
  have i1lt : s.heap.objs.size ≠ i1 := by obtain ⟨_, e, _⟩ := F.h1; exact lt e
  have i2lt : s.heap.objs.size ≠ i2 := by obtain ⟨_, e, _⟩ := F.h2; exact lt e
  unfold pyNext
  refine wpAny_bind (wpAny_attempt (wpAny_callSpecial?_slot (name := Str.ofString "__next__") F.typeIs PySem.F.slot_zip_next
    (wpAny_call_entry PySem.F.slot_zip_next F.typeIs PySem.F.entry_zip_next ?_ (PySem.F.args_zip_next_1 _))))
  rcases F.zs with hz | ⟨T, c, ot, hz, t, r⟩
  · refine zip_next_item D hz F.ti hTO F.h1 F.h2 F.hl1 F.hl2 hx hy fun h' a1 a2 a3 a4 a5 a6 a7 => wpAny_pure (hQ h' ⟨.inr ⟨_, false, _, a1, a5, lt hz, lt hTO, i1lt, i2lt, Nat.ne_of_gt hSlt⟩, ?_, ⟨_, _, a2⟩, a3, a4, ?_, ?_⟩ a5 a6 a7)
    · exact a7 _ _ D.TIz D.TITO D.TIi1 D.TIi2 F.ti
    · exact F.hl1.at fun o e => a7 _ o D.l1z D.l1TO D.l1i1 D.l1i2 e
    · exact F.hl2.at fun o e => a7 _ o D.l2z D.l2TO D.l2i1 D.l2i2 e
  · refine zip_later D hz t F.ti F.h1 F.h2 F.hl1 F.hl2 hx hy fun h' a1 a3 a4 a5 a6 a7 => wpAny_pure (hQ h' ⟨.inr ⟨T, true, ot, a1, a7 _ _ r.1 r.2.2.1 r.2.2.2.1 t, r⟩, ?_, ⟨a, b, ?_⟩, a3, a4, ?_, ?_⟩ a5 a6 fun c o c1 _ c3 c4 e => a7 c o c1 c3 c4 e)
    · exact a7 _ _ D.TIz D.TIi1 D.TIi2 F.ti
    · exact a7 _ _ D.TOz D.TOi1 D.TOi2 hTO
    · exact F.hl1.at fun o e => a7 _ o D.l1z D.l1i1 D.l1i2 e
    · exact F.hl2.at fun o e => a7 _ o D.l2z D.l2i1 D.l2i2 e
theorem zip_end {z TI TO i1 i2 l1 l2 S : Addr} {k : Nat} {xs ys : Array Value} {Q : Option Value → Shared → Prop} (hh : A.handled = none) (D : ZipApart z TI TO i1 i2 l1 l2)
    (F : ZF s.heap z TI TO i1 i2 l1 l2 S k xs ys) (hend : xs[k]? = none ∨ ys[k]? = none)
    (hQ : ∀ h', (∀ c o, c ≠ z → c ≠ TO → c ≠ i1 → c ≠ i2 → s.heap.get? c = some o → h'.get? c = some o) → Q none { s with heap := h' }) :
    wpAny (model prog w) A (pyNext (.ref z)) Q E s := by
  obtain ⟨a, b, hTO⟩ := F.to
  unfold pyNext
  refine wpAny_bind (wpAny_attempt (wpAny_callSpecial?_slot (name := Str.ofString "__next__") F.typeIs PySem.F.slot_zip_next
    (wpAny_call_entry PySem.F.slot_zip_next F.typeIs PySem.F.entry_zip_next ?_ (PySem.F.args_zip_next_1 _))))
  have fin : ∀ h' e, (∀ c o, c ≠ z → c ≠ TO → c ≠ i1 → c ≠ i2 → s.heap.get? c = some o → h'.get? c = some o) → (∃ o, h'.get? e = some o ∧ o.cls = .type "StopIteration") →
      wpAny (model prog w) A (isInstance (.ref e) (.type "StopIteration") >>= fun b => if b = true then pure none else throw (.ref e)) Q E { s with heap := h' } := by
    intro h' e hk ⟨o, ho, hc⟩
    refine wpAny_bind (wpAny_isInstance (T := "StopIteration") (b := true) ⟨o, ho, hc⟩ isSubtype_stop ?_)
    exact wpAny_pure (hQ _ hk)
  rcases F.zs with hz | ⟨T, c, ot, hz, t, r⟩
  · exact zip_next_end hh D hz F.ti hTO F.h1 F.h2 F.hl1 F.hl2 hend fun h' e hk he => fin h' e hk he
  · exact zip_later_end hh D hz t F.ti F.h1 F.h2 F.hl1 F.hl2 hend fun h' e hk he => fin h' e (fun c o c1 _ c3 c4 x => hk c o c1 c3 c4 x) he
end
variable {C : Cx}
/-- no number stands for the address -/
def Un (C : Cx) (s : VS) (ρ : List Addr) (c : Addr) : Prop := C.h₀.get? c = none ∧ ∀ i, Live s i → ρ[i]? ≠ some c
theorem Rel.raw {s : VS} {ρ : List Addr} {h h' : Heap} (R : Rel C s ρ h) (W : Addr → Prop) (hk : ∀ c o, ¬ W c → h.get? c = some o → h'.get? c = some o) (hw : ∀ c, W c → Un C s ρ c) : Rel C s ρ h' where
  len := R.len
  keep b o e := hk b o (fun q => by rw [(hw b q).1] at e; cases e) (R.keep b o e)
  obj i o e := let ⟨a, ob, q, g, r, n⟩ := R.obj i o e; ⟨a, ob, q, hk a ob (fun w => (hw a w).2 i (.inl ⟨o, e⟩) q) g, r, n⟩
  frm p hp := let ⟨a, mm, q, ⟨o, es, ep, g, x⟩, r, n⟩ := R.frm p hp; ⟨a, mm, q, ⟨o, es, ep, hk a o (fun w => (hw a w).2 p.1 (.inr (List.mem_map_of_mem hp)) q) g, x⟩, r, n⟩
  inj := R.inj
  frn := R.frn
  frd := R.frd
/-- an object that stands in the heap already gets a number -/
theorem Rel.adopt {s : VS} {ρ : List Addr} {h : Heap} {ob : Obj} {o : AO} {a : Addr} (R : Rel C s ρ h) (g : h.get? a = some ob) (un : Un C s ρ a) (r : ORel C (ρ ++ [a]) ob o) : Rel C (s.new o) (ρ ++ [a]) h := by
  have pre : ρ <+: ρ ++ [a] := List.prefix_append ..
  have here : (ρ ++ [a])[s.nx]? = some a := by rw [← R.len]; simp
  have live : ∀ {i : Nat}, Live (s.new o) i → i = s.nx ∨ (Live s i ∧ i < s.nx) := by
    intro i l
    rcases l with ⟨x, q⟩ | q
    · rw [VS.get_new] at q
      by_cases hi : i = s.nx
      · exact .inl hi
      · rw [if_neg hi] at q; exact .inr ⟨.inl ⟨x, q⟩, R.lt q⟩
    · obtain ⟨p, hp, rfl⟩ := List.mem_map.mp q
      exact .inr ⟨.inr q, R.flt hp⟩
  have old : ∀ {i : Nat} {b : Addr}, i < s.nx → (ρ ++ [a])[i]? = some b → ρ[i]? = some b := by
    intro i b hi e
    rw [List.getElem?_append_left (by rw [R.len]; exact hi)] at e
    exact e
  have apart : ∀ {i : Nat} {b : Addr}, Live s i → i < s.nx → (ρ ++ [a])[i]? = some b → b ≠ a := by
    intro i b l hi e q
    subst q
    exact un.2 i l (old hi e)
  refine ⟨by simp [R.len, VS.new], R.keep, fun i x e => ?_, fun p hp => ?_, fun i j b li lj ei ej => ?_, fun p hp => ?_, R.frd⟩
  · rw [VS.get_new] at e
    by_cases hi : i = s.nx
    · subst hi
      rw [if_pos rfl] at e
      cases e
      exact ⟨a, ob, here, g, r, un.1⟩
    · rw [if_neg hi] at e
      obtain ⟨b, y, q, gb, rb, nb⟩ := R.obj i x e
      exact ⟨b, y, pre_get pre q, gb, rb.mono pre, nb⟩
  · obtain ⟨b, mm, q, gb, rb, nb⟩ := R.frm p hp
    exact ⟨b, mm, pre_get pre q, gb, rb.mono pre, nb⟩
  · rcases live li with rfl | ⟨li', hi⟩
    · rw [here] at ei; cases ei
      rcases live lj with rfl | ⟨lj', hj⟩
      · rfl
      · exact absurd rfl (apart lj' hj ej)
    · rcases live lj with rfl | ⟨lj', hj⟩
      · rw [here] at ej; cases ej
        exact absurd rfl (apart li' hi ei)
      · exact R.inj i j b li' lj' (old hi ei) (old hj ej)
  · rw [VS.get_new, if_neg (Nat.ne_of_lt (R.flt hp))]
    exact R.frn p hp
theorem Un.new {s : VS} {ρ : List Addr} {h : Heap} {o : AO} {a c : Addr} (un : Un C s ρ c) (R : Rel C s ρ h) (hac : a ≠ c) : Un C (s.new o) (ρ ++ [a]) c := by
  refine ⟨un.1, fun i l e => ?_⟩
  by_cases hi : i = s.nx
  · subst hi
    rw [← R.len] at e
    simp at e
    exact hac e
  · have lt : i < s.nx := by
      rcases l with ⟨x, q⟩ | q
      · rw [VS.get_new, if_neg hi] at q; exact R.lt q
      · obtain ⟨p, hp, rfl⟩ := List.mem_map.mp q; exact R.flt hp
    have l' : Live s i := by
      rcases l with ⟨x, q⟩ | q
      · rw [VS.get_new, if_neg hi] at q; exact .inl ⟨x, q⟩
      · exact .inr q
    rw [List.getElem?_append_left (by rw [R.len]; exact lt)] at e
    exact un.2 i l' e
theorem Rel.fresh {s : VS} {ρ : List Addr} {h : Heap} (R : Rel C s ρ h) {a : Addr} (ha : h.objs.size ≤ a) : Un C s ρ a := by
  refine ⟨?_, fun i l e => absurd ha (Nat.not_le_of_lt (R.live l e))⟩
  cases e : C.h₀.get? a with
  | none => rfl
  | some o => exact absurd ha (Nat.not_le_of_lt (Heap.lt_size (R.keep a o e)))

theorem zip_loop {A : Around} {R : Result → Shared → Prop} (hA : A.handled = none) {z TI TO i1 i2 l1 l2 S : Addr} (D : ZipApart z TI TO i1 i2 l1 l2)
    (hS : z ≠ S ∧ TI ≠ S ∧ TO ≠ S ∧ i1 ≠ S ∧ i2 ≠ S ∧ l1 ≠ S ∧ l2 ≠ S) {X Y : List Value} :
    ∀ (xs ys : List AV) (vx vy : List Value) (k : Nat) (s s' : VS) (ρ : List Addr) (st : Shared) (acc : List Value) (c : Nat) (r : List AV),
      zipA s xs ys = (r, s') → Ok C s ρ st → AllV C ρ xs vx → AllV C ρ ys vy → X.drop k = vx → Y.drop k = vy → ZF st.heap z TI TO i1 i2 l1 l2 S k X.toArray Y.toArray →
      st.heap.get? S = some { cls := .type "list", data := .seq acc.toArray c } → acc.length + xs.length ≤ 1000 → (∀ w, w = S ∨ w = z ∨ w = TO ∨ w = i1 ∨ w = i2 → Un C s ρ w) →
      (∀ ρ' st' us c', ρ <+: ρ' → Ok C s' ρ' st' → AllV C ρ' r us → st'.heap.get? S = some { cls := .type "list", data := .seq (acc ++ us).toArray c' } → Un C s' ρ' S → R (.ok (.ret .none)) st') →
      codeAny (M C) A (.builtin "list.extend.loop" ⟨[.ref S, .ref z, .none], []⟩) R st := by
  intro xs
  have W : ∀ {h h' : Heap} {s : VS} {ρ : List Addr}, Rel C s ρ h → (∀ w, w = S ∨ w = z ∨ w = TO ∨ w = i1 ∨ w = i2 → Un C s ρ w) →
      (∀ c o, c ≠ z → c ≠ TO → c ≠ i1 → c ≠ i2 → h.get? c = some o → h'.get? c = some o) → Rel C s ρ h' := fun R un hk =>
    R.raw (fun w => w = S ∨ w = z ∨ w = TO ∨ w = i1 ∨ w = i2) (fun c o n e => hk c o (fun q => n (.inr (.inl q))) (fun q => n (.inr (.inr (.inl q)))) (fun q => n (.inr (.inr (.inr (.inl q))))) (fun q => n (.inr (.inr (.inr (.inr q))))) e) un
  have fin : ∀ (ys : List AV) (vx vy : List Value) (k : Nat) (s : VS) (ρ : List Addr) (st : Shared) (acc : List Value) (c : Nat),
      (X.toArray[k]? = none ∨ Y.toArray[k]? = none) → Ok C s ρ st → ZF st.heap z TI TO i1 i2 l1 l2 S k X.toArray Y.toArray →
      st.heap.get? S = some { cls := .type "list", data := .seq acc.toArray c } → (∀ w, w = S ∨ w = z ∨ w = TO ∨ w = i1 ∨ w = i2 → Un C s ρ w) →
      (∀ ρ' st' us c', ρ <+: ρ' → Ok C s ρ' st' → AllV C ρ' [] us → st'.heap.get? S = some { cls := .type "list", data := .seq (acc ++ us).toArray c' } → Un C s ρ' S → R (.ok (.ret .none)) st') →
      codeAny (M C) A (.builtin "list.extend.loop" ⟨[.ref S, .ref z, .none], []⟩) R st := by
    intro ys vx vy k s ρ st acc c he O F hSl un hR
    refine codeAny_builtin PySem.F.entry_extend_loop ?_
    rw [Around.under_plainId PySem.F.plain_extend_loop _]
    show wpAny _ A.in1 (pyNext (.ref z) >>= _) _ _ st
    refine wpAny_bind (zip_end hA D F he fun h' hk => ?_)
    refine wpAny_pure (hR ρ _ [] c (List.prefix_refl _) (O.heap (W O.1 un hk)) .nil ?_ (un S (.inl rfl)))
    rw [List.append_nil]
    exact hk S _ (Ne.symm hS.1) (Ne.symm hS.2.2.1) (Ne.symm hS.2.2.2.1) (Ne.symm hS.2.2.2.2.1) hSl
  induction xs with
  | nil =>
    intro ys vx vy k s s' ρ st acc c r hz O ax ay ex ey F hSl hn un hR
    cases hz
    cases ax
    have : X.length ≤ k := by simpa using ex
    exact fin ys [] vy k s ρ st acc c (.inl (by simp [this])) O F hSl un hR
  | cons x xs ih =>
    intro ys vx vy k s s' ρ st acc c r hz O ax ay ex ey F hSl hn un hR
    cases ys with
    | nil =>
      cases hz
      cases ay
      have : Y.length ≤ k := by simpa using ey
      exact fin [] vx [] k s ρ st acc c (.inr (by simp [this])) O F hSl un hR
    | cons y ys =>
      cases ax with
      | @cons _ u _ vx a1 ax =>
      cases ay with
      | @cons _ v _ vy a2 ay =>
      have hu : X[k]? = some u := by rw [← List.head?_drop, ex]; rfl
      have hv : Y[k]? = some v := by rw [← List.head?_drop, ey]; rfl
      refine codeAny_builtin PySem.F.entry_extend_loop ?_
      rw [Around.under_plainId PySem.F.plain_extend_loop _]
      show wpAny _ A.in1 (pyNext (.ref z) >>= _) _ _ st
      refine wpAny_bind (zip_next D F (Heap.lt_size hSl) (x := u) (y := v) (by simpa using hu) (by simpa using hv) fun h' F' hT hsz hk => ?_)
      have hS' := hk S _ (Ne.symm hS.1) (Ne.symm hS.2.2.1) (Ne.symm hS.2.2.2.1) (Ne.symm hS.2.2.2.2.1) hSl
      have O' : Ok C s ρ { st with heap := h' } := O.heap (W O.1 un hk)
      have unT : Un C s ρ st.heap.objs.size := O.1.fresh (Nat.le_refl _)
      have pre : ρ <+: ρ ++ [st.heap.objs.size] := List.prefix_append ..
      have O'' : Ok C (s.new (.tuple [x, y])) (ρ ++ [st.heap.objs.size]) { st with heap := h' } :=
        O.heap (O'.1.adopt hT unT ⟨[u, v], rfl, .cons (a1.mono pre) (.cons (a2.mono pre) .nil)⟩)
      have ltS : ∀ {w}, w = S ∨ w = z ∨ w = TO ∨ w = i1 ∨ w = i2 → st.heap.objs.size ≠ w := by
        intro w hw
        obtain ⟨_, _, hTO⟩ := F.to
        obtain ⟨_, e1, _⟩ := F.h1
        obtain ⟨_, e2, _⟩ := F.h2
        rcases hw with rfl | rfl | rfl | rfl | rfl
        · exact Nat.ne_of_gt (Heap.lt_size hSl)
        · rcases F.zs with q | ⟨_, _, _, q, _⟩ <;> exact Nat.ne_of_gt (Heap.lt_size q)
        · exact Nat.ne_of_gt (Heap.lt_size hTO)
        · exact Nat.ne_of_gt (Heap.lt_size e1)
        · exact Nat.ne_of_gt (Heap.lt_size e2)
      have un'' : ∀ w, w = S ∨ w = z ∨ w = TO ∨ w = i1 ∨ w = i2 → Un C (s.new (.tuple [x, y])) (ρ ++ [st.heap.objs.size]) w := fun w hw => (un w hw).new O.1 (ltS hw)
      show wpAny _ A.in1 (updateSeq S (·.push (.ref st.heap.objs.size)) >>= _) _ _ _
      refine wpAny_bind ?_
      have hlen : acc.length ≤ 1000 := by simp at hn; omega
      have g3 := Heap.get?_update_self (Obj.mapSeq (·.push (Value.ref st.heap.objs.size))) hS' rfl
      rw [mapSeq_push] at g3
      have k3 : ∀ c o, c ≠ S → h'.get? c = some o → (h'.update S (Obj.mapSeq (·.push (Value.ref st.heap.objs.size)))).get? c = some o := fun c o hc e => (Heap.get?_update_other _ _ (Ne.symm hc)).trans e
      have O3 : Ok C (s.new (.tuple [x, y])) (ρ ++ [st.heap.objs.size]) { st with heap := h'.update S (Obj.mapSeq (·.push (Value.ref st.heap.objs.size))) } :=
        O.heap (O''.1.raw (fun w => w = S) (fun c o n e => k3 c o n e) (fun w hw => un'' w (.inl hw)))
      have hz' : zipA s (x :: xs) (y :: ys) = (.ref s.nx :: (zipA (s.new (.tuple [x, y])) xs ys).1, (zipA (s.new (.tuple [x, y])) xs ys).2) := rfl
      rw [hz'] at hz
      cases hz
      refine wpAny_updateSeq hS' rfl (wpAny_pure ⟨plainId_quiet PySem.F.plain_extend_loop _, ih ys vx vy (k + 1) (s.new (.tuple [x, y])) _ (ρ ++ [st.heap.objs.size]) _ (acc ++ [.ref st.heap.objs.size]) (c + 1) _ rfl O3 (ax.mono pre) (ay.mono pre) ?_ ?_ (F'.but k3 hS) ?_ ?_ un'' ?_⟩) ?_ ?_
      · rw [← List.drop_drop, ex]; rfl
      · rw [← List.drop_drop, ey]; rfl
      · simpa using g3
      · simp at hn ⊢; omega
      · intro ρ' st' us c' hp O4 al g4 un4
        refine hR ρ' st' (.ref st.heap.objs.size :: us) c' (pre.trans hp) O4 (.cons ⟨st.heap.objs.size, ?_, rfl⟩ al) ?_ un4
        · refine pre_get hp ?_
          rw [← O.1.len]; simp
        · simpa using g4
      · rw [List.size_toArray]; exact few_line (by omega)
      · show (acc.toArray.push _).size ≤ sizeLine + 1
        rw [Array.size_push, List.size_toArray]
        exact Nat.succ_le_succ (few_line (by omega))
end
end Mine

namespace Mine
section
open PySem PySem.W PyProof.Rows PySem.Calls PySem.Spec
set_option maxRecDepth 100000
variable {C : Cx}

theorem live_del {s : VS} {i j : Nat} (h : Live (s.del j) i) : Live s i ∧ (i = j → i ∈ s.fs.map (·.1)) := by
  rcases h with ⟨o, q⟩ | q
  · rw [VS.get_del] at q
    by_cases e : i = j
    · rw [if_pos e] at q; cases q
    · rw [if_neg e] at q; exact ⟨.inl ⟨o, q⟩, fun x => absurd x e⟩
  · exact ⟨.inr q, fun _ => q⟩
theorem Rel.drop {s : VS} {ρ : List Addr} {h : Heap} {i : Nat} {a : Addr} {o : AO} (R : Rel C s ρ h) (e : s.get i = some o) (q : ρ[i]? = some a) : Rel C (s.del i) ρ h ∧ Un C (s.del i) ρ a := by
  refine ⟨R.del e q (fun c o _ e => e), ?_, fun j l ej => ?_⟩
  · obtain ⟨a', ob, q', g, _, n⟩ := R.obj i o e
    rw [q] at q'; cases q'
    exact n
  · obtain ⟨l1, l2⟩ := live_del l
    have := R.inj j i a l1 (.inl ⟨o, e⟩) ej q
    subst this
    obtain ⟨p, hp, hj⟩ := List.mem_map.mp (l2 rfl)
    have := R.frn p hp
    rw [hj, e] at this
    cases this
theorem Un.del {s : VS} {ρ : List Addr} {c : Addr} (un : Un C s ρ c) (i : Nat) : Un C (s.del i) ρ c := ⟨un.1, fun j l => un.2 j (live_del l).1⟩
theorem Rel.ne {s : VS} {ρ : List Addr} {h : Heap} (R : Rel C s ρ h) {i j : Nat} {a b : Addr} {o p : AO} (e : s.get i = some o) (f : s.get j = some p) (q : ρ[i]? = some a) (r : ρ[j]? = some b) (n : i ≠ j) : a ≠ b := by
  intro h; subst h
  exact n (R.inj i j a (.inl ⟨o, e⟩) (.inl ⟨p, f⟩) q r)

theorem zip_no_len : typeLookup (.type "zip") "__len__" = pure none := by rw [typeLookup_type, builtinLookup_eq_fast]; kernel_rfl
theorem zip_no_hint : typeLookup (.type "zip") "__length_hint__" = pure none := by rw [typeLookup_type, builtinLookup_eq_fast]; kernel_rfl

theorem list_of_zip {A : Around} {E : Value → Shared → Prop} {Q : Value → Shared → Prop} (hA : A.handled = none) {z TI TO i1 i2 l1 l2 : Addr} (D : ZipApart z TI TO i1 i2 l1 l2) {X Y : List Value}
    {xs ys : List AV} {s s' : VS} {ρ : List Addr} {st : Shared} {r : List AV} (hz : zipA s xs ys = (r, s')) (O : Ok C s ρ st) (ax : AllV C ρ xs X) (ay : AllV C ρ ys Y)
    (hn : xs.length ≤ 1000) (un : ∀ w, w = z ∨ w = TO ∨ w = i1 ∨ w = i2 → Un C s ρ w)
    (z0 : IsZip st.heap z TI TO .none) (zti : IsPair st.heap TI (.ref i1) (.ref i2)) {a b : Value} (zto : IsPair st.heap TO a b) (h1 : st.heap.IsListIter i1 l1 0) (h2 : st.heap.IsListIter i2 l2 0)
    (hl1 : st.heap.IsList l1 X.toArray) (hl2 : st.heap.IsList l2 Y.toArray)
    (hQ : ∀ ρ' st' us c', ρ <+: ρ' → Ok C s' ρ' st' → AllV C ρ' r us → st'.heap.get? st.heap.objs.size = some { cls := .type "list", data := .seq us.toArray c' } → Un C s' ρ' st.heap.objs.size → Q (.ref st.heap.objs.size) st') :
    wpAny (M C) A (call (.type "list") [.ref z]) Q E st := by
  have lt : ∀ {c o}, st.heap.get? c = some o → c ≠ st.heap.objs.size := fun e => Nat.ne_of_lt (Heap.lt_size e)
  have hS7 : z ≠ st.heap.objs.size ∧ TI ≠ st.heap.objs.size ∧ TO ≠ st.heap.objs.size ∧ i1 ≠ st.heap.objs.size ∧ i2 ≠ st.heap.objs.size ∧ l1 ≠ st.heap.objs.size ∧ l2 ≠ st.heap.objs.size := by
    obtain ⟨_, e1, _⟩ := h1
    obtain ⟨_, e2, _⟩ := h2
    obtain ⟨_, e3, _⟩ := hl1
    obtain ⟨_, e4, _⟩ := hl2
    exact ⟨lt z0, lt zti, lt zto, lt e1, lt e2, lt e3, lt e4⟩
  refine callType_codes (Q₁ := fun obj s₁ => obj = .ref st.heap.objs.size ∧ s₁ = { st with heap := st.heap.push { cls := .type "list", data := .seq #[] } }) PySem.F.called_list (PySem.F.typeCall_list_1 _) PySem.F.entry_list_init
    (code_list_new _ ⟨rfl, rfl⟩) fun obj s₁ q₁ => ?_
  obtain ⟨rfl, rfl⟩ := q₁
  have hS : (st.heap.push { cls := .type "list", data := .seq #[] }).get? st.heap.objs.size = some { cls := .type "list", data := .seq #[] } := Heap.get?_push_size _ rfl
  have up : ∀ c o, st.heap.get? c = some o → (st.heap.push { cls := .type "list", data := .seq #[] }).get? c = some o := fun c o e => Heap.get?_push_of_some _ e
  refine ⟨⟨_, hS, rfl⟩, PySem.F.args_list_init_2 _ _, ?_⟩
  generalize hS0 : st.heap.objs.size = S at *
  show wpAny _ A.in1.in1 (do let old ← Builtin.List.listItems (.ref S); Builtin.List.listUpdate (.ref S) (fun _ => #[]); letGo old.toList.reverse; Builtin.List.listExtendWith (.ref S) (.ref z) .none) _ _ _
  refine wpAny_bind ?_
  unfold Builtin.List.listItems
  refine wpAny_bind (wpAny_seqItems hS rfl (wpAny_pure ?_))
  show wpAny _ A.in1.in1 (updateSeq S (fun _ => #[]) >>= fun _ => letGo (#[] : Array Value).toList.reverse >>= fun _ => Builtin.List.listExtendWith (.ref S) (.ref z) .none) _ _ _
  refine wpAny_bind (wpAny_updateSeq hS rfl ?_)
  have hS₂ := Heap.get?_update_self (Obj.mapSeq (fun _ => (#[] : Array Value))) hS rfl
  refine wpAny_bind (wpAny_letGo ?_)
  have oth2 : ∀ c o, c ≠ S → st.heap.get? c = some o → ((st.heap.push { cls := .type "list", data := .seq #[] }).update S (Obj.mapSeq (fun _ => (#[] : Array Value)))).get? c = some o :=
    fun c o hc e => (Heap.get?_update_other _ _ (Ne.symm hc)).trans (up c o e)
  have hz2 : IsZip ((st.heap.push { cls := .type "list", data := .seq #[] }).update S (Obj.mapSeq (fun _ => (#[] : Array Value)))) z TI TO .none := oth2 _ _ hS7.1 z0
  unfold Builtin.List.listExtendWith
  refine wpAny_bind (wpAny_typeOf ⟨_, hz2, rfl⟩ ?_)
  have e1 : Builtin.List.listSameRef (.ref S) (.ref z) = false := by simp [Builtin.List.listSameRef, Ne.symm hS7.1]
  have e2 : (Value.type "zip" == Value.type "list") = false := by decide
  have e3 : (Value.type "zip" == Value.type "tuple") = false := by decide
  simp only [e1, e2, e3, Bool.or_false, Bool.false_eq_true, if_false]
  refine wpAny_bind (wpAny_pyIter_zip hz2 ?_)
  refine wpAny_bind (wpAny_holding ?_)
  unfold Builtin.List.listLengthHint
  refine wpAny_bind (wpAny_specialOf (T := "zip") ⟨_, hz2, rfl⟩ zip_no_len ?_)
  show wpAny _ A.in1.in1 (specialOf (Value.ref z) (Str.ofString "__length_hint__") >>= _) _ _ _
  refine wpAny_bind (wpAny_specialOf (T := "zip") ⟨_, hz2, rfl⟩ zip_no_hint ?_)
  refine wpAny_pure ?_
  show wpAny _ A.in1.in1 (rule "list.extend.makes-room" >>= fun _ => Builtin.List.listTouch (.ref S) >>= fun _ =>
    again (.builtin "list.extend.loop" ⟨[.ref S, .ref z, .none], []⟩)) _ _ _
  refine wpAny_bind (wpAny_rule ?_)
  refine wpAny_bind ?_
  show wpAny _ A.in1.in1 (updateSeq S (·.push .none) >>= fun _ => updateSeq S (·.pop)) _ _ _
  refine wpAny_bind (wpAny_updateSeq hS₂ rfl ?_)
  have hS₃ := Heap.get?_update_self (Obj.mapSeq (·.push Value.none)) hS₂ rfl
  refine wpAny_updateSeq (hz := by seq_fits) hS₃ rfl ?_
  have hS₄ := Heap.get?_update_self (Obj.mapSeq (·.pop)) hS₃ rfl
  have oth : ∀ c o, c ≠ S → st.heap.get? c = some o → ((((st.heap.push { cls := .type "list", data := .seq #[] }).update S (Obj.mapSeq (fun _ => (#[] : Array Value)))).update S (Obj.mapSeq (·.push Value.none))).update S (Obj.mapSeq (·.pop))).get? c = some o :=
    fun c o hc e => (Heap.get?_update_other _ _ (Ne.symm hc)).trans ((Heap.get?_update_other _ _ (Ne.symm hc)).trans (oth2 c o hc e))
  have unS : Un C s ρ S := O.1.fresh (by rw [hS0]; exact Nat.le_refl _)
  have O4 : Ok C s ρ { st with heap := (((st.heap.push { cls := .type "list", data := .seq #[] }).update S (Obj.mapSeq (fun _ => (#[] : Array Value)))).update S (Obj.mapSeq (·.push Value.none))).update S (Obj.mapSeq (·.pop)) } :=
    O.heap (O.1.raw (fun w => w = S) (fun c o n e => oth c o n e) (fun w hw => hw ▸ unS))
  refine wpAny_pure ⟨plainId_quiet PySem.F.plain_extend_loop _, zip_loop (by exact hA) D hS7 (X := X) (Y := Y) xs ys X Y 0 s s' ρ _ [] _ r hz O4 ax ay rfl rfl ?_ hS₄ (by simpa using hn) ?_ ?_⟩
  · exact ⟨.inl (oth _ _ hS7.1 z0), oth _ _ hS7.2.1 zti, ⟨a, b, oth _ _ hS7.2.2.1 zto⟩, h1.at fun o e => oth _ o hS7.2.2.2.1 e, h2.at fun o e => oth _ o hS7.2.2.2.2.1 e, hl1.at fun o e => oth _ o hS7.2.2.2.2.2.1 e, hl2.at fun o e => oth _ o hS7.2.2.2.2.2.2 e⟩
  · rintro w (rfl | hw)
    · exact unS
    · exact un w hw
  · intro ρ' st' us c' hp O5 al g5 un5
    exact ⟨rfl, hQ ρ' st' us c' hp O5 al (by simpa using g5) un5⟩
end
end Mine

namespace Mine
section
open PySem PySem.W PyProof.Rows PySem.Calls PySem.Spec
set_option maxRecDepth 100000
variable {C : Cx}

theorem Rel.size {s : VS} {ρ : List Addr} {h : Heap} (R : Rel C s ρ h) {i : Nat} {a : Addr} (l : Live s i) (q : ρ[i]? = some a) : a ≠ h.objs.size := Nat.ne_of_lt (R.live l q)
theorem zipNew_ok {A : Around} {s : VS} {ρ : List Addr} {st : Shared} {i j : Nat} {xs ys : List AV} {v w : Value} (e1 : s.get i = some (.list xs)) (e2 : s.get j = some (.list ys)) (O : Ok C s ρ st) (r1 : VRel C ρ (.ref i) v) (r2 : VRel C ρ (.ref j) w) (Ex) :
    wpAny (M C) A (call (.type "zip") [v, w]) (PV C ρ (zipNew s i j).2 (zipNew s i j).1) Ex st := by
  obtain ⟨a, us, n, rfl, q1, g1, al1⟩ := O.list e1 r1
  obtain ⟨b, ws, m, rfl, q2, g2, al2⟩ := O.list e2 r2
  refine call_zip_2 (isList_of g1) (isList_of g2) fun h' z0 zti zto hi1 hi2 hsz hk => ?_
  generalize hN : st.heap.objs.size = N at *
  have R0 : Rel C s ρ h' := O.1.keeps hk
  have u0 : ∀ c, N ≤ c → Un C s ρ c := fun c hc => O.1.fresh (by rw [hN]; exact hc)
  obtain ⟨o1, g1', c1, d1⟩ := hi1
  obtain ⟨o2, g2', c2, d2⟩ := hi2
  have len := O.1.len
  have R1 : Rel C (s.new (.lit i 0)) (ρ ++ [N]) h' := R0.adopt g1' (u0 N (Nat.le_refl _)) ⟨c1, a, pre_get (List.prefix_append ..) q1, d1⟩
  have u1 : ∀ c, N + 1 ≤ c → Un C (s.new (.lit i 0)) (ρ ++ [N]) c := fun c hc => (u0 c (Nat.le_of_succ_le hc)).new R0 (Nat.ne_of_lt hc)
  have R2 : Rel C ((s.new (.lit i 0)).new (.lit j 0)) (ρ ++ [N] ++ [N + 1]) h' := R1.adopt g2' (u1 _ (Nat.le_refl _)) ⟨c2, b, pre_get ((List.prefix_append ..).trans (List.prefix_append ..)) q2, d2⟩
  have u2 : ∀ c, N + 2 ≤ c → Un C ((s.new (.lit i 0)).new (.lit j 0)) (ρ ++ [N] ++ [N + 1]) c := fun c hc => (u1 c (Nat.le_of_succ_le hc)).new R1 (Nat.ne_of_lt hc)
  have R3 : Rel C (((s.new (.lit i 0)).new (.lit j 0)).new (.tuple [.ref s.nx, .ref (s.nx + 1)])) (ρ ++ [N] ++ [N + 1] ++ [N + 2]) h' := by
    refine R2.adopt zti (u2 _ (Nat.le_refl _)) ⟨[.ref N, .ref (N + 1)], rfl, .cons ⟨N, ?_, rfl⟩ (.cons ⟨N + 1, ?_, rfl⟩ .nil)⟩
    · rw [← len]; simp
    · rw [← len]; simp
  have u3 : ∀ c, N + 3 ≤ c → Un C (((s.new (.lit i 0)).new (.lit j 0)).new (.tuple [.ref s.nx, .ref (s.nx + 1)])) (ρ ++ [N] ++ [N + 1] ++ [N + 2]) c := fun c hc => (u2 c (Nat.le_of_succ_le hc)).new R2 (Nat.ne_of_lt hc)
  have R4 : Rel C ((((s.new (.lit i 0)).new (.lit j 0)).new (.tuple [.ref s.nx, .ref (s.nx + 1)])).new (.tuple [.none, .none])) (ρ ++ [N] ++ [N + 1] ++ [N + 2] ++ [N + 3]) h' :=
    R3.adopt zto (u3 _ (Nat.le_refl _)) ⟨[.none, .none], rfl, .cons rfl (.cons rfl .nil)⟩
  have u4 : ∀ c, N + 4 ≤ c → Un C ((((s.new (.lit i 0)).new (.lit j 0)).new (.tuple [.ref s.nx, .ref (s.nx + 1)])).new (.tuple [.none, .none])) (ρ ++ [N] ++ [N + 1] ++ [N + 2] ++ [N + 3]) c := fun c hc => (u3 c (Nat.le_of_succ_le hc)).new R3 (Nat.ne_of_lt hc)
  have R5 : Rel C (zipNew s i j).2 (ρ ++ [N] ++ [N + 1] ++ [N + 2] ++ [N + 3] ++ [N + 4]) h' := by
    refine R4.adopt z0 (u4 _ (Nat.le_refl _)) ⟨N + 2, ?_, N + 3, ?_, rfl⟩
    · rw [← len]; simp
    · rw [← len]; simp
  refine ⟨_, ?_, O.heap R5, N + 4, ?_, rfl⟩
  · simp only [List.append_assoc]; exact List.prefix_append ..
  · rw [← len]; simp [zipNew]
theorem litAt_some {s : VS} {v : AV} {p : Nat × Nat} (h : litAt s v = some p) : v = .ref p.1 ∧ s.get p.1 = some (.lit p.2 0) := by
  unfold litAt at h
  split at h
  · split at h
    · rename_i e
      split at h
      · cases h; exact ⟨rfl, e⟩
      · cases h
    · cases h
  · cases h
theorem apart_some {i j : Nat} {u : Unit} (h : apart i j = some u) : i ≠ j := by
  unfold apart at h
  split at h
  · cases h
  · rename_i e
    exact Nat.ne_of_beq_eq_false e
theorem two_some {xs : List AV} {p : AV × AV} (h : two xs = some p) : xs = [p.1, p.2] := by
  unfold two at h
  split at h
  · cases h; rfl
  · cases h
theorem listO_ok {A : Around} {s s' : VS} {ρ : List Addr} {st : Shared} {z : Nat} {r : AV} {v : Value} (hA : A.handled = none) (h : listO s z (s.get z) = some (r, s')) (O : Ok C s ρ st) (rv : VRel C ρ (.ref z) v) (Ex) :
    wpAny (M C) A (call (.type "list") [v]) (PV C ρ s' r) Ex st := by
  unfold listO at h
  cases ez : s.get z with
  | none => rw [ez] at h; cases h
  | some o =>
    rw [ez] at h
    cases o with
    | zip ti to =>
      obtain ⟨us, hus, h⟩ := andThen_some h
      obtain ⟨u, hu, h⟩ := andThen_some h
      obtain ⟨p, hp, h⟩ := andThen_some h
      obtain ⟨q, hq, h⟩ := andThen_some h
      obtain ⟨vs, hvs, h⟩ := andThen_some h
      obtain ⟨w, hw, h⟩ := andThen_some h
      obtain ⟨_, n1, h⟩ := andThen_some h
      obtain ⟨_, n2, h⟩ := andThen_some h
      obtain ⟨xs, hxs, h⟩ := andThen_some h
      obtain ⟨ys, hys, hL⟩ := andThen_some h
      clear h
      have n1 := apart_some n1
      have n2 := apart_some n2
      obtain ⟨ti', e, et⟩ := tupAt_some hus; cases e
      obtain ⟨to', e, eo⟩ := tupAt_some hvs; cases e
      obtain ⟨k1, e, f1⟩ := listAt_some hxs; cases e
      obtain ⟨k2, e, f2⟩ := listAt_some hys; cases e
      have hu := two_some hu
      have hw := two_some hw
      obtain ⟨u1, eu1⟩ := litAt_some hp
      obtain ⟨u2, eu2⟩ := litAt_some hq
      rw [u1, u2] at hu
      subst hu hw
      obtain ⟨az, ob, rfl, qz, gz, aT, qT, aO, qO, rfl⟩ := O.obj (o := .zip ti to) ez rv
      obtain ⟨aT', vt, eT, qT', gT, alT⟩ := O.tuple0 et ⟨aT, qT, rfl⟩
      cases eT
      obtain ⟨aO', vo, eO, qO', gO, alO⟩ := O.tuple0 eo ⟨aO, qO, rfl⟩
      cases eO
      cases alT with
      | cons t1 alT => cases alT with
      | cons t2 alT =>
      cases alT
      cases alO with
      | cons o1 alO => cases alO with
      | cons o2 alO =>
      cases alO
      obtain ⟨ai1, qi1, rfl⟩ := t1
      obtain ⟨ai2, qi2, rfl⟩ := t2
      obtain ⟨ob1, gi1, c1, al1, ql1, d1⟩ := O.obj' (o := .lit p.2 0) eu1 qi1
      obtain ⟨ob2, gi2, c2, al2, ql2, d2⟩ := O.obj' (o := .lit q.2 0) eu2 qi2
      obtain ⟨al1', X, nX, el1, ql1', gl1, aX⟩ := O.list f1 ⟨al1, ql1, rfl⟩
      cases el1
      obtain ⟨al2', Y, nY, el2, ql2', gl2, aY⟩ := O.list f2 ⟨al2, ql2, rfl⟩
      cases el2
      have D : ZipApart az aT aO ai1 ai2 al1 al2 := by
        have id : ∀ {i j : Nat} {o p : AO}, s.get i = some o → s.get j = some p → o ≠ p → i ≠ j := fun e f n h => by subst h; rw [e] at f; cases f; exact n rfl
        constructor
        · exact O.1.ne et ez qT qz (id et ez (by simp))
        · exact O.1.ne eo ez qO qz (id eo ez (by simp))
        · exact O.1.ne eu1 ez qi1 qz (id eu1 ez (by simp))
        · exact O.1.ne eu2 ez qi2 qz (id eu2 ez (by simp))
        · exact O.1.ne et eo qT qO n2
        · exact O.1.ne et eu1 qT qi1 (id et eu1 (by simp))
        · exact O.1.ne et eu2 qT qi2 (id et eu2 (by simp))
        · exact O.1.ne eo eu1 qO qi1 (id eo eu1 (by simp))
        · exact O.1.ne eo eu2 qO qi2 (id eo eu2 (by simp))
        · exact O.1.ne eu1 eu2 qi1 qi2 n1
        · exact O.1.ne f1 ez ql1 qz (id f1 ez (by simp))
        · exact O.1.ne f1 eo ql1 qO (id f1 eo (by simp))
        · exact O.1.ne f1 eu1 ql1 qi1 (id f1 eu1 (by simp))
        · exact O.1.ne f1 eu2 ql1 qi2 (id f1 eu2 (by simp))
        · exact O.1.ne f2 ez ql2 qz (id f2 ez (by simp))
        · exact O.1.ne f2 eo ql2 qO (id f2 eo (by simp))
        · exact O.1.ne f2 eu1 ql2 qi1 (id f2 eu1 (by simp))
        · exact O.1.ne f2 eu2 ql2 qi2 (id f2 eu2 (by simp))
      unfold listZ at hL
      split at hL
      · rename_i hf
        have hf := few_some hf
        have idn : ∀ {i j : Nat} {o p : AO}, s.get i = some o → s.get j = some p → o ≠ p → i ≠ j := fun e f n h => by subst h; rw [e] at f; cases f; exact n rfl
        obtain ⟨R1, n1'⟩ := O.1.drop ez qz
        have eo1 : (s.del z).get to = some (.tuple [w.1, w.2]) := by rw [VS.get_del, if_neg (idn eo ez (by simp))]; exact eo
        obtain ⟨R2, n2'⟩ := R1.drop eo1 qO
        have eu11 : ((s.del z).del to).get p.1 = some (.lit p.2 0) := by rw [VS.get_del, if_neg (idn eu1 eo (by simp)), VS.get_del, if_neg (idn eu1 ez (by simp))]; exact eu1
        obtain ⟨R3, n3'⟩ := R2.drop eu11 qi1
        have eu21 : (((s.del z).del to).del p.1).get q.1 = some (.lit q.2 0) := by rw [VS.get_del, if_neg (Ne.symm n1), VS.get_del, if_neg (idn eu2 eo (by simp)), VS.get_del, if_neg (idn eu2 ez (by simp))]; exact eu2
        obtain ⟨R4, n4'⟩ := R3.drop eu21 qi2
        cases hz : zipA ((((s.del z).del to).del p.1).del q.1) xs ys with
        | mk r0 s0 =>
          rw [hz] at hL
          cases hL
          refine list_of_zip hA D hz (O.heap R4) aX aY hf ?_ gz gT gO ⟨ob1, gi1, c1, d1⟩ ⟨ob2, gi2, c2, d2⟩ (isList_of gl1) (isList_of gl2) fun ρ' st' us c' hp O5 al g5 un5 => ?_
          · rintro x (rfl | rfl | rfl | rfl)
            · exact ((n1'.del _).del _).del _
            · exact (n2'.del _).del _
            · exact n3'.del _
            · exact n4'
          · have pre : ρ' <+: ρ' ++ [st.heap.objs.size] := List.prefix_append ..
            refine ⟨ρ' ++ [st.heap.objs.size], hp.trans pre, O5.heap (O5.1.adopt g5 un5 ⟨us, c', rfl, al.mono pre⟩), st.heap.objs.size, ?_, rfl⟩
            rw [← O5.1.len]; simp
      · cases hL
    | _ => cases h
end
end Mine

namespace Mine
section
open PySem PySem.W PyProof.Rows PySem.Calls PySem.Spec
variable {C : Cx}

theorem callI_ok {A : Around} {s s' : VS} {ρ : List Addr} {st : Shared} {b : BI} {args : List AV} {r : AV} {vs : List Value} (hA : A.handled = none) (h : callI s b args = some (r, s')) (O : Ok C s ρ st) (al : AllV C ρ args vs) (Ex) :
    wpAny (M C) A (call b.val vs) (PV C ρ s' r) Ex st := by
  unfold callI at h
  cases b with
  | len => obtain ⟨x, hx, h⟩ := andThen_some h; obtain ⟨v, rfl, rv⟩ := al.one hx; exact len_ok h O rv _
  | sum => obtain ⟨x, hx, h⟩ := andThen_some h; obtain ⟨v, rfl, rv⟩ := al.one hx; exact sum_ok hA h O rv _
  | range => obtain ⟨x, hx, h⟩ := andThen_some h; obtain ⟨v, rfl, rv⟩ := al.one hx; exact range_ok h O rv _
  | str => obtain ⟨x, hx, h⟩ := andThen_some h; obtain ⟨v, rfl, rv⟩ := al.one hx; exact str_ok h O rv _
  | int => obtain ⟨x, hx, h⟩ := andThen_some h; obtain ⟨v, rfl, rv⟩ := al.one hx; exact int_ok h O rv _
  | type => obtain ⟨x, hx, h⟩ := andThen_some h; obtain ⟨v, rfl, rv⟩ := al.one hx; exact type_ok h O rv _
  | list =>
    obtain ⟨x, hx, h⟩ := andThen_some h
    obtain ⟨v, rfl, rv⟩ := al.one hx
    unfold listB at h
    cases x with
    | ref i => exact listO_ok hA h O rv _
    | _ => cases h
  | zip =>
    obtain ⟨p, hp, h⟩ := andThen_some h
    obtain ⟨v, w, rfl, rv, rw'⟩ := al.two hp
    obtain ⟨a, b⟩ := p
    dsimp only at h rv rw'
    cases a with
    | ref i =>
      cases b with
      | ref j =>
        dsimp only at h
        obtain ⟨xs, hxs, h⟩ := andThen_some h
        obtain ⟨ys, hys, h⟩ := andThen_some h
        obtain ⟨i', e, e1⟩ := listAt_some hxs; cases e
        obtain ⟨j', e, e2⟩ := listAt_some hys; cases e
        cases h
        exact zipNew_ok e1 e2 O rv rw' _
      | _ => cases h
    | _ => cases h
theorem callS_ok (G : Glob C) {A : Around} {s s' : VS} {ρ : List Addr} {st : Shared} {b : BI} {args : List AV} {r : AV} {vs : List Value} (hA : A.handled = none) (h : callS C.S s b args = some (r, s')) (O : Ok C s ρ st) (al : AllV C ρ args vs) (Ex) :
    wpAny (M C) A (call b.val vs) (PV C ρ s' r) Ex st := by
  unfold callS at h
  split at h
  · rename_i hs
    split at h
    · cases h
      unfold isScr at hs
      split at hs
      · split at hs
        · cases al with
          | cons rv al =>
            cases al
            cases rv
            obtain ⟨vs, ⟨oo, g0, g1, n, g2⟩, hn, al⟩ := G.scr
            have g : st.heap.IsList C.sa vs.toArray := ⟨oo, O.1.keep _ _ g0, g1, n, g2⟩
            have hlen : vs.length = C.S.sn := by rw [al.length, List.length_replicate]
            exact call_len_list g (by rw [List.size_toArray, hlen]; omega) (((O.tok _).post ⟨_, by rw [List.size_toArray, hlen]⟩))
        · cases hs
      · cases hs
    · cases h
  · exact callI_ok hA h O al Ex
end
end Mine

namespace Mine
section
open PySem PySem.W PyProof.Rows PySem.Calls PySem.Spec
variable {C : Cx}

def FlowR (C : Cx) (ρ : List Addr) : AF → Flow → Prop
  | .next, f => f = .next
  | .brk, f => f = .brk
  | .cont, f => f = .cont
  | .ret v, f => ∃ w, f = .ret w ∧ VRel C ρ v w
theorem FlowR.mono {ρ ρ' : List Addr} (h : ρ <+: ρ') {f : AF} {g : Flow} (r : FlowR C ρ f g) : FlowR C ρ' f g := by
  cases f with
  | ret v => obtain ⟨w, e, q⟩ := r; exact ⟨w, e, q.mono h⟩
  | _ => exact r
structure Snd (C : Cx) (n : Nat) (r : Ev) : Prop where
  ev : ∀ {A : Around} {E : AEnv} {env : Env} {s s' : VS} {ρ : List Addr} {st : Shared} {e : Expr} {v : AV}, r.ev E e s = some (v, s') → AOk n A → Ok C s ρ st → EnvR C ρ E env →
    ∀ Ex, wpAny (M C) A (eval e env) (PV C ρ s' v) Ex st
  tst : ∀ {A : Around} {E : AEnv} {env : Env} {s s' : VS} {ρ : List Addr} {st : Shared} {e : Expr} {b : Bool}, r.tst E e s = some (b, s') → AOk n A → Ok C s ρ st → EnvR C ρ E env →
    ∀ Ex, wpAny (M C) A (isTrue e env (eval e env)) (Post C ρ s' fun _ w => w = b) Ex st
  ex : ∀ {A : Around} {E : AEnv} {env : Env} {s s' : VS} {ρ : List Addr} {st : Shared} {t : Stmt} {f : AF}, r.ex E t s = some (f, s') → AOk n A → Ok C s ρ st → EnvR C ρ E env →
    ∀ Ex, wpAny (M C) A (exec t env) (Post C ρ s' fun ρ' w => FlowR C ρ' f w) Ex st
  asg : ∀ {A : Around} {E : AEnv} {env : Env} {s s' : VS} {ρ : List Addr} {st : Shared} {t : Expr} {v : AV} {w : Value}, r.asg E t v s = some s' → AOk n A → Ok C s ρ st → EnvR C ρ E env → VRel C ρ v w →
    ∀ Ex, wpAny (M C) A (assign t env w) (Post C ρ s' fun _ _ => True) Ex st
  cal : ∀ {A : Around} {s s' : VS} {ρ : List Addr} {st : Shared} {f : Nat} {vs : List AV} {kw : List (Str × AV)} {v : AV} {ws : List Value} {kws : List (Str × Value)}, r.cal f vs kw s = some (v, s') → AOk n A → Ok C s ρ st → AllV C ρ vs ws → KwR C ρ kw kws →
    ∀ R : Result → Shared → Prop, (∀ w st', PV C ρ s' v w st' → R (.ok (.ret w)) st') → codeAny (M C) A (.call (.ref f) ⟨ws, kws⟩) R st
  fl : ∀ {A : Around} {E : AEnv} {env : Env} {s s' : VS} {ρ : List Addr} {st : Shared} {t : Expr} {it : AV} {w : Value} {b : List Stmt} {f : AF}, r.fl E t it b s = some (f, s') → AOk n A → Ok C s ρ st → EnvR C ρ E env → VRel C ρ it w →
    ∀ R : Result → Shared → Prop, (∀ f' st', Post C ρ s' (fun ρ' g => FlowR C ρ' f g) f' st' → R (.ok f') st') → codeAny (M C) A (.forLoop t w b [] env) R st
  wl : ∀ {A : Around} {E : AEnv} {env : Env} {s s' : VS} {ρ : List Addr} {st : Shared} {t : Expr} {b : List Stmt} {f : AF}, r.wl E t b s = some (f, s') → AOk n A → Ok C s ρ st → EnvR C ρ E env →
    ∀ R : Result → Shared → Prop, (∀ f' st', Post C ρ s' (fun ρ' g => FlowR C ρ' f g) f' st' → R (.ok f') st') → codeAny (M C) A (.whileLoop t b [] env) R st
  cl : ∀ {A : Around} {E : AEnv} {env : Env} {s s' : VS} {ρ : List Addr} {st : Shared} {e : Expr} {gs : List Comprehension} {d acc : Nat} {it : AV} {w u : Value}, r.cl E e gs it acc s = some s' → AOk n A → Ok C s ρ st → EnvR C ρ E env → VRel C ρ it w → VRel C ρ (.ref acc) u →
    (clausesOf e).drop d = gs → (∃ elt g sc p, e = .ListComp elt g sc p) →
    ∀ R : Result → Shared → Prop, (∀ st', Post C ρ s' (fun _ (_ : Unit) => True) () st' → R (.ok .next) st') → codeAny (M C) A (.compLoop e d w u env) R st

theorem Post.then {α β : Type} {ρ : List Addr} {s₁ : VS} {P : List Addr → α → Prop} {a : α} {st : Shared} (p : Post C ρ s₁ P a st) {m : Sem β} {A : Around} {s₂ : VS} {Q : List Addr → β → Prop} {Ex : Value → Shared → Prop}
    (h : ∀ ρ', ρ <+: ρ' → Ok C s₁ ρ' st → P ρ' a → wpAny (M C) A m (Post C ρ' s₂ Q) Ex st) : wpAny (M C) A m (Post C ρ s₂ Q) Ex st :=
  let ⟨ρ', q, O, x⟩ := p
  wpAny_mono (h ρ' q O x) (fun _ _ z => z.up q) fun _ _ z => z
theorem Post.imp {α : Type} {ρ : List Addr} {s' : VS} {P Q : List Addr → α → Prop} {a : α} {st : Shared} (p : Post C ρ s' P a st) (h : ∀ ρ', ρ <+: ρ' → P ρ' a → Q ρ' a) : Post C ρ s' Q a st :=
  let ⟨ρ', q, O, x⟩ := p; ⟨ρ', q, O, h ρ' q x⟩
/-- one step, then another -/
theorem seqR {α β : Type} {m : Sem α} {k : α → Sem β} {A : Around} {ρ : List Addr} {s₁ s₂ : VS} {P : List Addr → α → Prop} {Q : List Addr → β → Prop} {Ex : Value → Shared → Prop} {st : Shared}
    (h : wpAny (M C) A m (Post C ρ s₁ P) Ex st) (h2 : ∀ a ρ' st', ρ <+: ρ' → Ok C s₁ ρ' st' → P ρ' a → wpAny (M C) A (k a) (Post C ρ' s₂ Q) Ex st') : wpAny (M C) A (m >>= k) (Post C ρ s₂ Q) Ex st :=
  wpAny_bind (wpAny_mono h (fun a st' p => p.then fun ρ' q O x => h2 a ρ' st' q O x) fun _ _ z => z)
theorem seqT {α : Type} {m : Sem α} {A : Around} {ρ : List Addr} {s₁ : VS} {P : List Addr → α → Prop} {Q : α → Shared → Prop} {Ex : Value → Shared → Prop} {st : Shared}
    (h : wpAny (M C) A m (Post C ρ s₁ P) Ex st) (h2 : ∀ a ρ' st', ρ <+: ρ' → Ok C s₁ ρ' st' → P ρ' a → Q a st') : wpAny (M C) A m Q Ex st :=
  wpAny_mono h (fun a st' ⟨ρ', q, O, x⟩ => h2 a ρ' st' q O x) fun _ _ z => z
theorem AllV.cons' {ρ ρ' : List Addr} {x : AV} {xs : List AV} {v : Value} {vs : List Value} (h : ρ <+: ρ') (a : VRel C ρ x v) (r : AllV C ρ' xs vs) : AllV C ρ' (x :: xs) (v :: vs) := .cons (a.mono h) r

theorem starEach_cons {e : Expr} {es : List Expr} {env : Env} (h : noStar e = true) : starEach (e :: es) env = (false, eval e env) :: starEach es env := by
  cases e <;> first | rfl | (cases h)
/-- values of expressions, one after another -/
theorem evs_ok {n : Nat} {r : Ev} (S : Snd C n r) {A : Around} {E : AEnv} {env : Env} (hA : AOk n A) (pos : Pos) (Ex) : ∀ {es : List Expr} {s s' : VS} {ρ : List Addr} {st : Shared} {vs : List AV}, evsR r E es s = some (vs, s') → Ok C s ρ st → EnvR C ρ E env →
    wpAny (M C) A (spliced (backTo pos (starEach es env))) (Post C ρ s' fun ρ' ws => AllV C ρ' vs ws) Ex st := by
  intro es
  induction es with
  | nil => intro s s' ρ st vs h O V; cases h; exact spliced_nil (O.post .nil)
  | cons e es ih =>
    intro s s' ρ st vs h O V
    unfold evsR at h
    split at h
    · rename_i hn
      obtain ⟨v, s₁, h1, h⟩ := on_some h
      obtain ⟨us, s₂, h2, h⟩ := on_some h
      cases h
      rw [starEach_cons hn]
      show wpAny _ _ (spliced ((false, eval e env) :: backTo pos (starEach es env))) _ _ _
      refine spliced_cons (seqT (S.ev h1 hA O V Ex) fun w ρ' st' q O' r' => seqT (ih h2 O' (V.mono q)) fun ws ρ'' st'' q' O'' al => ⟨ρ'', q.trans q', O'', .cons (r'.mono q') al⟩)
    · cases h
theorem evsK_ok {n : Nat} {r : Ev} (S : Snd C n r) {A : Around} {E : AEnv} {env : Env} (hA : AOk n A) (pos : Pos) (Ex) : ∀ {kws : List Keyword} {s s' : VS} {ρ : List Addr} {st : Shared} {vs : List AV}, evsR r E (kws.map (·.value)) s = some (vs, s') → Ok C s ρ st → EnvR C ρ E env →
    wpAny (M C) A (evalAll ((backToKw pos (keywordEach kws env)).map (·.2))) (Post C ρ s' fun ρ' ws => AllV C ρ' vs ws) Ex st := by
  intro kws
  induction kws with
  | nil => intro s s' ρ st vs h O V; cases h; exact wpAny_pure (O.post .nil)
  | cons k kws ih =>
    intro s s' ρ st vs h O V
    obtain ⟨name, value, kp⟩ := k
    unfold evsR at h
    dsimp only [List.map] at h
    split at h
    · obtain ⟨v, s₁, h1, h⟩ := on_some h
      obtain ⟨us, s₂, h2, h⟩ := on_some h
      cases h
      show wpAny _ _ (evalAll ((do let v ← eval value env; standAt pos; pure v) :: (backToKw pos (keywordEach kws env)).map (·.2))) _ _ _
      refine wpAny_evalAll_cons (wpAny_bind (seqT (S.ev h1 hA O V Ex) fun w ρ' st' q O' r' => wpAny_bind (wpAny_standAt (wpAny_pure ?_))))
      exact seqT (ih h2 O' (V.mono q)) fun ws ρ'' st'' q' O'' al => ⟨ρ'', q.trans q', O'', .cons (r'.mono q') al⟩
    · cases h
theorem names_ok (pos : Pos) (env : Env) : ∀ kws : List Keyword, (backToKw pos (keywordEach kws env)).filterMap (·.1) = kws.filterMap (·.arg) := by
  intro kws
  induction kws with
  | nil => rfl
  | cons k kws ih =>
    obtain ⟨name, value, kp⟩ := k
    show List.filterMap (·.1) ((name, _) :: backToKw pos (keywordEach kws env)) = _
    cases name <;> simp [ih]
theorem some_ok (pos : Pos) (env : Env) : ∀ kws : List Keyword, (backToKw pos (keywordEach kws env)).all (·.1.isSome) = kws.all (·.arg.isSome) := by
  intro kws
  induction kws with
  | nil => rfl
  | cons k kws ih =>
    obtain ⟨name, value, kp⟩ := k
    show List.all ((name, _) :: backToKw pos (keywordEach kws env)) (·.1.isSome) = _
    simp [ih]
end
end Mine

namespace Mine
section
open PySem PySem.W PyProof.Rows PySem.Calls PySem.Spec
variable {C : Cx} {n : Nat} {r : Ev} {A : Around} {E : AEnv} {env : Env} {s s' : VS} {ρ : List Addr} {st : Shared}

theorem const_ok {c : Const} {v : AV} {k pos} (h : evConst c = some v) (O : Ok C s ρ st) (Ex) : wpAny (M C) A (eval (.Constant c k pos) env) (PV C ρ s v) Ex st := by
  unfold evConst at h
  cases c with
  | none => cases h; exact wpAny_pure (O.post rfl)
  | bool b => cases h; exact wpAny_pure (O.post rfl)
  | int i => cases h; exact wpAny_Constant_int ((O.tok _).post ⟨_, rfl⟩)
  | str x => cases h; exact Constant_str ((O.tok _).post ⟨_, rfl⟩)
  | _ => cases h
theorem binX_ok (B : InB C) (S : Snd C n r) (hA : AOk n A) {l rr : Expr} {op : Operator} {v : AV} {pos} (h : evBin C.S r E l op rr s = some (v, s')) (O : Ok C s ρ st) (V : EnvR C ρ E env) (Ex) :
    wpAny (M C) A (eval (.BinOp l op rr pos) env) (PV C ρ s' v) Ex st := by
  obtain ⟨a, s₁, h1, h⟩ := on_some h
  obtain ⟨b, s₂, h2, h⟩ := on_some h
  refine wpAny_BinOp (seqT (S.ev h1 hA O V Ex) fun va ρ₁ st₁ q₁ O₁ ra => seqT (S.ev h2 hA O₁ (V.mono q₁) Ex) fun vb ρ₂ st₂ q₂ O₂ rb => ?_)
  exact wpAny_mono (bin_ok B O₂ h (ra.mono q₂) rb Ex) (fun _ _ p => p.up (q₁.trans q₂)) fun _ _ x => x
theorem litI_some {e : Expr} {i : Int} (h : litI (some e) = some i) : ∃ k p, e = .Constant (.int i) k p := by
  unfold litI at h
  split at h
  · rename_i c k p q
    cases q
    split at h
    · cases h; exact ⟨_, _, rfl⟩
    · cases h
  · cases h
theorem unX_ok {op : UnaryOp} {e : Expr} {v : AV} {pos} (h : evUn op e s = some (v, s')) (O : Ok C s ρ st) (Ex) :
    wpAny (M C) A (eval (.UnaryOp op e pos) env) (PV C ρ s' v) Ex st := by
  unfold evUn at h
  cases op with
  | USub =>
    obtain ⟨i, hi, h⟩ := andThen_some h
    cases h
    obtain ⟨k, p, rfl⟩ := litI_some hi
    exact wpAny_UnaryOp (wpAny_Constant_int (PyProof.Rows.neg_int (((O.tok _).tok _).post ⟨_, rfl⟩)))
  | _ => cases h
theorem ifX_ok (S : Snd C n r) (hA : AOk n A) {t a b : Expr} {v : AV} {pos} (h : evIf r E t a b s = some (v, s')) (O : Ok C s ρ st) (V : EnvR C ρ E env) (Ex) :
    wpAny (M C) A (eval (.IfExp t a b pos) env) (PV C ρ s' v) Ex st := by
  obtain ⟨c, s₁, h1, h⟩ := on_some h
  refine wpAny_IfExp (seqT (S.tst h1 hA O V Ex) fun w ρ₁ st₁ q₁ O₁ rc => ?_)
  subst rc
  cases w with
  | true => exact wpAny_mono (S.ev h hA O₁ (V.mono q₁) Ex) (fun _ _ p => p.up q₁) fun _ _ x => x
  | false => exact wpAny_mono (S.ev h hA O₁ (V.mono q₁) Ex) (fun _ _ p => p.up q₁) fun _ _ x => x
theorem cmpX_ok (B : InB C) (S : Snd C n r) (hA : AOk n A) {l : Expr} {ops : List CmpOp} {rs : List Expr} {v : AV} {pos} (h : evCmp C.S r E l ops rs s = some (v, s')) (O : Ok C s ρ st) (V : EnvR C ρ E env) (Ex) :
    wpAny (M C) A (eval (.Compare l ops rs pos) env) (PV C ρ s' v) Ex st := by
  unfold evCmp at h
  split at h
  · split at h
    · obtain ⟨a, s₁, h1, h⟩ := on_some h
      obtain ⟨b, s₂, h2, h⟩ := on_some h
      obtain ⟨c, hc, h⟩ := andThen_some h
      cases h
      refine wpAny_Compare1 (seqT (S.ev h1 hA O V Ex) fun va ρ₁ st₁ q₁ O₁ ra => seqT (S.ev h2 hA O₁ (V.mono q₁) Ex) fun vb ρ₂ st₂ q₂ O₂ rb => ?_) (behind_of hc _)
      exact wpAny_mono (cmp_ok B hA O₂ hc (ra.mono q₂) rb Ex) (fun _ _ p => p.up (q₁.trans q₂)) fun _ _ x => x
    · cases h
  · cases h
theorem tstCmp_ok (B : InB C) (S : Snd C n r) (hA : AOk n A) {l : Expr} {ops : List CmpOp} {rs : List Expr} {b : Bool} {pos} (h : tstCmp C.S r E l ops rs s = some (b, s')) (O : Ok C s ρ st) (V : EnvR C ρ E env) (whole Ex) :
    wpAny (M C) A (isTrue (.Compare l ops rs pos) env whole) (Post C ρ s' fun _ w => w = b) Ex st := by
  unfold tstCmp at h
  split at h
  · split at h
    · obtain ⟨a, s₁, h1, h⟩ := on_some h
      obtain ⟨b, s₂, h2, h⟩ := on_some h
      obtain ⟨hc, e⟩ := give_some h
      subst e
      refine wpAny_isTrue_Compare1 (seqT (S.ev h1 hA O V Ex) fun va ρ₁ st₁ q₁ O₁ ra => seqT (S.ev h2 hA O₁ (V.mono q₁) Ex) fun vb ρ₂ st₂ q₂ O₂ rb => ?_) (behind_of hc _)
      refine seqT (cmp_ok B hA O₂ hc (ra.mono q₂) rb Ex) fun vc ρ₃ st₃ q₃ O₃ rc => ?_
      cases rc
      exact wpAny_truthy_bool ⟨ρ₃, (q₁.trans q₂).trans q₃, O₃, rfl⟩
    · cases h
  · cases h
theorem tstVal_ok (S : Snd C n r) (hA : AOk n A) {e : Expr} {b : Bool} (h : tstVal r E e s = some (b, s')) (O : Ok C s ρ st) (V : EnvR C ρ E env) (Ex)
    (he : isTrue e env (eval e env) = (do let v ← eval e env; standAt e.pos; holding [v] (truthy v))) :
    wpAny (M C) A (isTrue e env (eval e env)) (Post C ρ s' fun _ w => w = b) Ex st := by
  obtain ⟨v, s₁, h1, h⟩ := on_some h
  obtain ⟨hb, e⟩ := give_some h
  subst e
  refine wpAny_isTrue_value (seqT (S.ev h1 hA O V Ex) fun va ρ₁ st₁ q₁ O₁ ra => ?_) he
  exact wpAny_mono (tru_ok O₁ hb ra Ex) (fun _ _ p => p.up q₁) fun _ _ x => x
theorem tstAnd_ok (S : Snd C n r) (hA : AOk n A) {op : BoolOp} {es : List Expr} {b : Bool} {pos} (h : tstAnd r E op es s = some (b, s')) (O : Ok C s ρ st) (V : EnvR C ρ E env) (whole Ex) :
    wpAny (M C) A (isTrue (.BoolOp op es pos) env whole) (Post C ρ s' fun _ w => w = b) Ex st := by
  unfold tstAnd at h
  cases op with
  | Or => cases h
  | And =>
    dsimp only at h
    split at h
    · obtain ⟨c, s₁, h1, h⟩ := on_some h
      refine wpAny_isTrue_BoolOp (wpAny_allTrue_And_cons (seqT (S.tst h1 hA O V Ex) fun w ρ₁ st₁ q₁ O₁ rc => ?_))
      subst rc
      cases w with
      | true =>
        refine wpAny_allTrue_And_cons (seqT (S.tst h hA O₁ (V.mono q₁) Ex) fun w ρ₂ st₂ q₂ O₂ rc => ?_)
        subst rc
        cases w with
        | true => exact wpAny_allTrue_And_nil ⟨ρ₂, q₁.trans q₂, O₂, rfl⟩
        | false => exact ⟨ρ₂, q₁.trans q₂, O₂, rfl⟩
      | false => cases h; exact ⟨ρ₁, q₁, O₁, rfl⟩
    · cases h
theorem tst_ok (B : InB C) (S : Snd C n r) (hA : AOk n A) {e : Expr} {b : Bool} (h : mkTst C.S r E e s = some (b, s')) (O : Ok C s ρ st) (V : EnvR C ρ E env) (Ex) :
    wpAny (M C) A (isTrue e env (eval e env)) (Post C ρ s' fun _ w => w = b) Ex st := by
  cases e
  case BoolOp => exact tstAnd_ok S hA h O V _ Ex
  case Compare => exact tstCmp_ok B S hA h O V _ Ex
  case Constant => exact tstVal_ok S hA h O V Ex rfl
  case Name => exact tstVal_ok S hA h O V Ex rfl
  case Call => exact tstVal_ok S hA h O V Ex rfl
  all_goals cases h
theorem listX_ok (S : Snd C n r) (hA : AOk n A) {es : List Expr} {v : AV} {pos} (h : (on (evsR r E es s) fun vs s => mkList s vs) = some (v, s')) (O : Ok C s ρ st) (V : EnvR C ρ E env) (Ex) :
    wpAny (M C) A (eval (.List es pos) env) (PV C ρ s' v) Ex st := by
  obtain ⟨vs, s₁, h1, h⟩ := on_some h
  rw [arm_eval_List]
  refine wpAny_bind (wpAny_standAt (wpAny_bind (seqT (evs_ok S hA pos Ex h1 O V) fun ws ρ₁ st₁ q₁ O₁ al => ?_)))
  exact wpAny_mono (mkList_ok h O₁ al Ex) (fun _ _ p => p.up q₁) fun _ _ x => x
theorem tupX_ok (S : Snd C n r) (hA : AOk n A) {es : List Expr} {v : AV} {k pos} (h : (on (evsR r E es s) fun vs s => mkTup s vs) = some (v, s')) (O : Ok C s ρ st) (V : EnvR C ρ E env) (Ex) :
    wpAny (M C) A (eval (.Tuple es k pos) env) (PV C ρ s' v) Ex st := by
  obtain ⟨vs, s₁, h1, h⟩ := on_some h
  show wpAny _ _ (do standAt pos; newTuple (← spliced (backTo pos (starEach es env)))) _ _ _
  refine wpAny_bind (wpAny_standAt (wpAny_bind (seqT (evs_ok S hA pos Ex h1 O V) fun ws ρ₁ st₁ q₁ O₁ al => ?_)))
  exact wpAny_mono (mkTup_ok h O₁ al Ex) (fun _ _ p => p.up q₁) fun _ _ x => x
theorem part_ok (S : Snd C n r) (hA : AOk n A) {e : Option Expr} {v : Option AV} {i : Option Int} (h : evOpt r E e s = some (v, s')) (hi : optI v = some i) (O : Ok C s ρ st) (V : EnvR C ρ E env) (Ex) :
    wpAny (M C) A (evalPart e env) (Post C ρ s' fun _ w => PartR i w) Ex st := by
  cases e with
  | none =>
    have h' : some ((none : Option AV), s) = some (v, s') := h
    cases h'
    have hi' : some (none : Option Int) = some i := hi
    cases hi'
    exact wpAny_pure (O.post .none)
  | some e =>
    replace h : (on (r.ev E e s) fun v s => some (some v, s)) = some (v, s') := h
    obtain ⟨a, s₁, h1, h⟩ := on_some h
    cases h
    refine seqT (S.ev h1 hA O V Ex) fun w ρ₁ st₁ q₁ O₁ ra => ⟨ρ₁, q₁, O₁, ?_⟩
    cases a with
    | int j =>
      have hi' : some (some j) = some i := hi
      cases hi'
      obtain ⟨t, rfl⟩ := ra
      exact .some _ _
    | _ => cases hi
theorem subX_ok (G : Glob C) (S : Snd C n r) (hA : AOk n A) {o i : Expr} {v : AV} {pos} (h : evSub C.S r E o i s = some (v, s')) (O : Ok C s ρ st) (V : EnvR C ρ E env) (Ex) :
    wpAny (M C) A (eval (.Subscript o i pos) env) (PV C ρ s' v) Ex st := by
  obtain ⟨a, s₁, h1, h⟩ := on_some h
  refine Subscript_ (seqT (S.ev h1 hA O V Ex) fun va ρ₁ st₁ q₁ O₁ ra => ?_)
  have plain : (∀ l u p q, i ≠ .Slice l u p q) → (on (r.ev E i s₁) fun i s => give s (itemA s a i)) = some (v, s') →
      wpAny (M C) A (eval i env) (fun i_1 s₂ => wpAny (M C) A (subscriptTail o i va i_1) (PV C ρ s' v) Ex s₂) Ex st₁ := by
    intro hn h
    obtain ⟨b, s₂, h2, h⟩ := on_some h
    obtain ⟨hb, e⟩ := give_some h
    subst e
    refine seqT (S.ev h2 hA O₁ (V.mono q₁) Ex) fun vb ρ₂ st₂ q₂ O₂ rb => ?_
    exact wpAny_mono (item_ok hb O₂ (ra.mono q₂) rb hn Ex) (fun _ _ p => p.up (q₁.trans q₂)) fun _ _ x => x
  by_cases hn : ∃ l u p q, i = .Slice l u p q
  · obtain ⟨lo, hi, step, p, rfl⟩ := hn
    replace h : evSlice C.S r E a lo hi step s₁ = some (v, s') := h
    unfold evSlice at h
    cases step with
    | some x => cases h
    | none =>
      obtain ⟨l, s₂, h2, h⟩ := on_some h
      obtain ⟨u, s₃, h3, h⟩ := on_some h
      obtain ⟨li, hl, h⟩ := andThen_some h
      obtain ⟨ui, hu, h⟩ := andThen_some h
      refine wpAny_Slice (seqT (part_ok S hA h2 hl O₁ (V.mono q₁) Ex) fun vl ρ₂ st₂ q₂ O₂ rl => seqT (part_ok S hA h3 hu O₂ (V.mono (q₁.trans q₂)) Ex) fun vu ρ₃ st₃ q₃ O₃ ru => ?_)
      rw [evalPart_none]
      refine wpAny_pure ?_
      exact wpAny_mono (sliceS_ok G h O₃ (ra.mono (q₂.trans q₃)) rl ru Ex) (fun _ _ p => p.up ((q₁.trans q₂).trans q₃)) fun _ _ x => x
  · refine plain (fun l u p q e => hn ⟨l, u, p, q, e⟩) ?_
    cases i <;> first | exact h | exact absurd ⟨_, _, _, _, rfl⟩ hn
end
end Mine

namespace Mine
section
open PySem PySem.W PyProof.Rows PySem.Calls PySem.Spec
variable {C : Cx} {n : Nat} {r : Ev} {A : Around} {E : AEnv} {env : Env} {s s' : VS} {ρ : List Addr} {st : Shared}

theorem pairsR_len {ks : List (Option Expr)} : ∀ {es : List Expr} {s s' : VS} {l : List (Int × AV)}, pairsR r E ks es s = some (l, s') → ks.all (·.isSome) = true ∧ ks.length = es.length ∧ l.length = ks.length := by
  induction ks with
  | nil =>
    intro es s s' l h
    cases es with
    | nil => cases h; exact ⟨rfl, rfl, rfl⟩
    | cons e es => cases h
  | cons k ks ih =>
    intro es s s' l h
    cases es with
    | nil => cases h
    | cons e es =>
      obtain ⟨i, hi, h⟩ := andThen_some h
      obtain ⟨v, s₁, h1, h⟩ := on_some h
      obtain ⟨l', s₂, h2, h⟩ := on_some h
      cases h
      obtain ⟨a, b, c⟩ := ih h2
      cases k with
      | none => cases hi
      | some k => exact ⟨by simpa using a, by simp [b], by simp [c]⟩
theorem pairs_ok (S : Snd C n r) (hA : AOk n A) (pos : Pos) (Ex) {ks : List (Option Expr)} : ∀ {es : List Expr} {s s' : VS} {ρ : List Addr} {st : Shared} {l : List (Int × AV)}, pairsR r E ks es s = some (l, s') → Ok C s ρ st → EnvR C ρ E env →
    wpAny (M C) A (evalPairs (pairTrees ks es env pos)) (Post C ρ s' fun ρ' vs => ∃ kvs, Carries (intKind C.prog C.w) vs kvs ∧ PairV C ρ' l kvs) Ex st := by
  induction ks with
  | nil =>
    intro es s s' ρ st l h O V
    cases es with
    | nil => cases h; exact wpAny_pure (O.post ⟨[], trivial, .nil⟩)
    | cons e es => cases h
  | cons k ks ih =>
    intro es s s' ρ st l h O V
    cases es with
    | nil => cases h
    | cons e es =>
      obtain ⟨i, hi, h⟩ := andThen_some h
      obtain ⟨v, s₁, h1, h⟩ := on_some h
      obtain ⟨l', s₂, h2, h⟩ := on_some h
      cases h
      cases k with
      | none => cases hi
      | some k =>
        obtain ⟨kk, kp, rfl⟩ := litI_some hi
        show wpAny _ _ (do let kv ← eval (.Constant (.int i) kk kp) env; let vv ← holding [kv] (do let x ← eval e env; standAt pos; pure x); return (kv, vv) :: (← holding [kv, vv] (evalPairs (pairTrees ks es env pos)))) _ _ _
        refine wpAny_bind (wpAny_Constant_int ?_)
        refine wpAny_bind (wpAny_holding (wpAny_bind (seqT (S.ev h1 hA (O.tok _) V Ex) fun w ρ₁ st₁ q₁ O₁ rv => wpAny_bind (wpAny_standAt (wpAny_pure ?_)))))
        refine wpAny_bind (wpAny_holding (seqT (ih h2 O₁ (V.mono q₁)) fun vs ρ₂ st₂ q₂ O₂ ⟨kvs, hc, pr⟩ => wpAny_pure ⟨ρ₂, q₁.trans q₂, O₂, (i, w) :: kvs, ?_, .cons (rv.mono q₂) pr⟩))
        exact ⟨by simp [intKind, Value.isInt], rfl, hc⟩
theorem PairV.keys {ρ : List Addr} {es : List (Int × AV)} {kvs : List (Int × Value)} (r : PairV C ρ es kvs) : kvs.map (·.1) = es.map (·.1) := by
  induction r with
  | nil => rfl
  | cons _ _ ih => simp [ih]
theorem nodupK_ok {l : List (Int × AV)} (h : nodupK l = true) : (l.map (·.1)).Nodup := by
  induction l with
  | nil => exact List.nodup_nil
  | cons p l ih =>
    unfold nodupK at h
    split at h
    · rename_i a
      rw [List.map_cons, List.nodup_cons]
      refine ⟨fun m => ?_, ih h⟩
      obtain ⟨q, hq, e⟩ := List.mem_map.mp m
      have := List.all_eq_true.mp a q hq
      simp [e] at this
    · cases h
theorem dictX_ok (S : Snd C n r) (hA : AOk n A) {ks : List (Option Expr)} {es : List Expr} {v : AV} {pos} (h : (on (pairsR r E ks es (s.new (.dict []))) fun l s' => dictA s' s.nx l) = some (v, s')) (O : Ok C s ρ st) (V : EnvR C ρ E env) (Ex) :
    wpAny (M C) A (eval (.Dict ks es pos) env) (PV C ρ s' v) Ex st := by
  obtain ⟨l, s₁, h1, h⟩ := on_some h
  obtain ⟨l1, l2, l3⟩ := pairsR_len h1
  unfold dictA at h
  split at h
  · rename_i m em
    split at h
    · split at h
      · rename_i hd
        split at h
        · rename_i h10
          split at h
          · rename_i h01
            cases h
            have h10 := Nat.le_of_ble_eq_true h10
            have h01 := Nat.le_of_ble_eq_true h01
            have pre : ρ <+: ρ ++ [st.heap.objs.size] := List.prefix_append ..
            have here : (ρ ++ [st.heap.objs.size])[s.nx]? = some st.heap.objs.size := by rw [← O.1.len]; simp
            have O1 : Ok C (s.new (.dict [])) (ρ ++ [st.heap.objs.size]) { st with heap := st.heap.push { cls := .type "dict", data := .dict #[] } } :=
              O.push fun a => ⟨[], ⟨#[], 0, ⟨rfl, rfl, rfl⟩, rfl, fun _ he => by simp at he, Pairs.nil, List.nodup_nil⟩, .nil⟩
            refine wpAny_Dict_pairs (knd := intKind C.prog C.w) (pairs := pairTrees ks es env pos) (zip_pairTrees ks es env pos l1 l2) ?_ ?_ ?_
            · intro e
              have := pairTrees_length ks es env pos l1 l2
              rw [e] at this
              simp at this
              omega
            · rw [pairTrees_length ks es env pos l1 l2]; omega
            · refine seqT (pairs_ok S hA pos Ex h1 O1 (V.mono pre)) fun vs ρ₂ st₂ q₂ O₂ ⟨kvs, hc, pr⟩ => ⟨kvs, hc, ?_, fun h' hd' hs => ?_⟩
              · obtain ⟨ob, g, kvs0, hd0, pr0⟩ := O₂.obj' (o := .dict []) em (pre_get q₂ here)
                cases pr0
                exact Heap.dictOf_iff.mpr ⟨ob, g, hd0⟩
              · obtain ⟨ob, g, hd1⟩ := Heap.dictOf_iff.mp hd'
                have nd : (kvs.map (·.1)).Nodup := by rw [pr.keys]; exact nodupK_ok hd
                rw [merged_append_of_fresh [] kvs (by simpa using nd)] at hd1
                refine ⟨ρ₂, pre.trans q₂, (O₂.put em (pre_get q₂ here) g hs.extBut (o := .dict l) ⟨kvs, hd1, pr⟩).tok _, _, pre_get q₂ here, rfl⟩
          · cases h
        · cases h
      · cases h
    · cases h
  · cases h
end
end Mine

namespace Mine
section
open PySem PySem.W PyProof.Rows PySem.Calls PySem.Spec
set_option maxRecDepth 100000

theorem lk_headers : typeLookup (.type "object") "_headers" = pure none := by rw [typeLookup_type, builtinLookup_eq_fast]; kernel_rfl
theorem lk_conv : typeLookup (.type "object") "_convert_string_type" = pure none := by rw [typeLookup_type, builtinLookup_eq_fast]; kernel_rfl
theorem lk_getall : typeLookup (.type "object") "get_all" = pure none := by rw [typeLookup_type, builtinLookup_eq_fast]; kernel_rfl
theorem lk_items : typeLookup (.type "object") "items" = pure none := by rw [typeLookup_type, builtinLookup_eq_fast]; kernel_rfl
theorem lk_add : typeLookup (.type "object") "add_header" = pure none := by rw [typeLookup_type, builtinLookup_eq_fast]; kernel_rfl
def methN : List Str := ["_convert_string_type", "get_all", "items", "add_header"]
/-- the class of the header tables -/
structure Cls (C : Cx) : Prop where
  at_ : ∃ (nm q : Str) (N : Addr) (bs : List Value) (sn : List Str) (sub : List Value) (ab : Bool) (col : Option Bool) (dd : Option Addr) (k0 k1 k2 k3 k5 : Option Value) (newId : String) (mN : Str → Option Value),
    C.h₀.get? C.S.cls = some (excClassObj nm q C.S.cls N bs [.type "object"] true sn sub ab col dd k0 k1 k2 k3 k5 newId) ∧ C.h₀.Ns N mN ∧
    mN "__getattribute__" = none ∧ mN "__getattr__" = none ∧ mN "__setattr__" = none ∧ mN "_headers" = none ∧ ∀ x f, lookS x C.S.meth = some f → mN x = some (.ref f)
  meth : ∀ x f, lookS x C.S.meth = some f → x ∈ methN
  fn : ∀ x f, lookS x C.S.meth = some f → ∃ o, C.h₀.get? f = some o ∧ o.cls = .type "function"
  make : ∃ K : Frag, K.In C.h₀ ∧ makesIn K C.S.cls = true ∧ findIn K (.ref C.S.cls) "__init__" = some (some (.ref C.S.init)) ∧ typeIn K (.ref C.S.init) = some (.type "function")
variable {C : Cx} {n : Nat} {r : Ev} {A : Around} {E : AEnv} {env : Env} {s s' : VS} {ρ : List Addr} {st : Shared}

theorem attrsAt_some {v : AV} {p : Nat × List (Str × AV)} (h : attrsAt s v = some p) : ∃ i, v = .ref i ∧ s.get i = some (.inst p.1) ∧ s.get p.1 = some (.attrs p.2) := by
  unfold attrsAt at h
  split at h
  · split at h
    · rename_i e
      split at h
      · rename_i e'
        cases h
        exact ⟨_, rfl, e, e'⟩
      · cases h
    · cases h
  · cases h
/-- an object of the class -/
theorem inst_ok {v : AV} {p : Nat × List (Str × AV)} {w : Value} (h : attrsAt s v = some p) (O : Ok C s ρ st) (rv : VRel C ρ v w) :
    ∃ x dx mm sl, w = .ref x ∧ ρ[p.1]? = some dx ∧ st.heap.get? x = some ⟨.ref C.S.cls, some dx, .plain, sl⟩ ∧ st.heap.Inst x C.S.cls mm ∧ MapV C ρ p.2 mm ∧ PySem.Within mm ["_headers"] ∧ x ≠ dx ∧ C.h₀.get? x = none := by
  obtain ⟨i, rfl, e1, e2⟩ := attrsAt_some h
  obtain ⟨x, ob, q, g, ⟨dx, qd, sl, rfl⟩, n1⟩ := O.1.obj i (.inst p.1) e1
  obtain ⟨x', q', rfl⟩ := rv
  rw [q] at q'; cases q'
  obtain ⟨od, gd, mm, ⟨es, ep, hd, sk, uk, hf⟩, mv, wi⟩ := O.obj' (o := .attrs p.2) e2 qd
  have ne : x ≠ dx := O.1.ne e1 e2 q qd (fun h => by rw [h, e2] at e1; cases e1)
  exact ⟨x, dx, mm, sl, rfl, qd, g, ⟨_, g, rfl, (fun c h => by cases h), .inr ⟨dx, rfl, Ne.symm ne, ⟨od, es, ep, gd, hd, sk, uk, hf⟩⟩⟩, mv, wi, ne, n1⟩
theorem base_plain {o : Expr} {attr : Str} {env : Env} {whole : Sem Value} (h : plainBase o = true) : attributeBase o attr env whole = whole := by
  cases o <;> first | rfl | (cases h)
theorem attrX_ok (G : Cls C) (S : Snd C n r) (hA : AOk n A) {o : Expr} {x : Str} {v : AV} {pos} (h : evAttr r E o x s = some (v, s')) (O : Ok C s ρ st) (V : EnvR C ρ E env) (Ex) :
    wpAny (M C) A (eval (.Attribute o x pos) env) (PV C ρ s' v) Ex st := by
  unfold evAttr at h
  split at h
  · rename_i hb
    obtain ⟨w, s₁, h1, h⟩ := on_some h
    obtain ⟨p, hp, h⟩ := andThen_some h
    obtain ⟨u, hu, h⟩ := andThen_some h
    cases u with
    | ref i =>
      cases h
      show wpAny _ _ (do let o' ← attributeBase o x env (eval o env); standAt pos.atName; let r ← holding [o'] (getAttr o' x true); letTemporaryGo o o' r; pure r) _ _ _
      rw [base_plain hb]
      refine wpAny_bind (seqT (S.ev h1 hA O V Ex) fun vo ρ₁ st₁ q₁ O₁ ro => wpAny_bind (wpAny_standAt (wpAny_bind (wpAny_holding ?_))))
      obtain ⟨nm, q, N, bs, sn, sub, ab, col, dd, k0, k1, k2, k3, k5, newId, mN, gC, gN, f1, f2, f3, f4, f5⟩ := G.at_
      obtain ⟨a, dx, mm, sl, rfl, qd, g, I, mv, wi, ne, n1⟩ := inst_ok hp O₁ ro
      obtain ⟨z, hz, rz⟩ := mv _ _ hu
      have hx : x = "_headers" := by simpa using wi x (by rw [hz]; simp)
      subst hx
      obtain ⟨b, qb, rfl⟩ := rz
      obtain ⟨hp', gg, d, t, os⟩ := st₁
      refine load_attr (O₁.1.keep _ _ gC) (gN.keeps O₁.1.keep) f1 f4 lk_headers I hz rfl ?_
      refine wpAny_bind (wpAny_letTemporaryGo (wpAny_pure ⟨ρ₁, q₁, (O₁.tok (t + 1)), b, qb, rfl⟩))
    | _ => cases h
  · cases h
theorem hasMeth_ok (G : Cls C) {v : AV} {w : Value} {p : Nat × List (Str × AV)} {x : Str} {f : Nat} {pl : Sem Bool} {Q : Value × List Value → Shared → Prop} (hp : attrsAt s v = some p) (hf : lookS x C.S.meth = some f) (O : Ok C s ρ st) (rv : VRel C ρ v w)
    (hQ : Q (.ref f, [w]) st) (Ex) : wpAny (M C) A (getMethod w x pl) Q Ex st := by
  obtain ⟨nm, q, N, bs, sn, sub, ab, col, dd, k0, k1, k2, k3, k5, newId, mN, gC, gN, f1, f2, f3, f4, f5⟩ := G.at_
  obtain ⟨a, dx, mm, sl, rfl, qd, g, I, mv, wi, ne, n1⟩ := inst_ok hp O rv
  obtain ⟨of, gf, cf⟩ := G.fn x f hf
  have hx := G.meth x f hf
  have sh : mm x = none := by
    cases e : mm x with
    | none => rfl
    | some z =>
      have hx' : x = "_headers" := by simpa using wi x (by rw [e]; simp)
      subst hx'
      exact absurd hx (by decide +kernel)
  have hB : typeLookup (.type "object") x = pure none := by
    simp only [methN, List.mem_cons, List.not_mem_nil, or_false] at hx
    rcases hx with rfl | rfl | rfl | rfl
    · exact lk_conv
    · exact lk_getall
    · exact lk_items
    · exact lk_add
  obtain ⟨hp', gg, d, t, os⟩ := st
  exact method_of (O.1.keep _ _ gC) (gN.keeps O.1.keep) f1 f2 (f5 x f hf) (O.1.keep _ _ gf) cf hB I sh hQ
theorem relS_ok {vs keep : List Value} {Q : Unit → Shared → Prop} (h : Q () st) (Ex) : wpAny (M C) A (release vs keep) Q Ex st := by
  unfold release
  generalize vs.filter _ = l
  induction l with
  | nil => exact wpAny_pure h
  | cons v l ih =>
    cases l with
    | nil => exact wpAny_pure h
    | cons w l => exact wpAny_bind (wpAny_holding (wpAny_point ih))
theorem asgAttr_ok (G : Cls C) (S : Snd C n r) (hA : AOk n A) {o : Expr} {x : Str} {v : AV} {w : Value} {pos} (h : (match seq x "_headers" with
    | true => on (r.ev E o s) fun o s => andThen (attrsAt s o) fun p => some (s.put p.1 (.attrs (setS x v p.2)))
    | false => none) = some s') (O : Ok C s ρ st) (V : EnvR C ρ E env) (rv : VRel C ρ v w) (Ex) :
    wpAny (M C) A (assign (.Attribute o x pos) env w) (Post C ρ s' fun _ _ => True) Ex st := by
  split at h
  · rename_i hx
    rw [seq_eq] at hx
    cases beq_iff_eq.mp hx
    obtain ⟨u, s₁, h1, h⟩ := on_some h
    obtain ⟨p, hp, h⟩ := andThen_some h
    cases h
    show wpAny _ _ (do let ov ← holding [w] (eval o env); standAt pos.atName; holding [w, ov] (setAttr ov "_headers" w); release [w, ov] []) _ _ _
    refine wpAny_bind (wpAny_holding (seqT (S.ev h1 hA O V Ex) fun vo ρ₁ st₁ q₁ O₁ ro => wpAny_bind (wpAny_standAt (wpAny_bind (wpAny_holding ?_)))))
    obtain ⟨nm, q, N, bs, sn, sub, ab, col, dd, k0, k1, k2, k3, k5, newId, mN, gC, gN, f1, f2, f3, f4, f5⟩ := G.at_
    obtain ⟨a, dx, mm, sl, rfl, qd, g, I, mv, wi, ne, n1⟩ := inst_ok hp O₁ ro
    obtain ⟨i, ei, e1, e2⟩ := attrsAt_some hp
    have hxC : a ≠ C.S.cls := fun e => by rw [e, gC] at n1; cases n1
    have aft : ∀ h' tk', h'.Inst a C.S.cls (fun y => if y = "_headers" then some w else mm y) →
        (∀ b o, b ≠ a → (∀ o₀ dx, st₁.heap.get? a = some o₀ → o₀.dict = some dx → b ≠ dx) → st₁.heap.get? b = some o → h'.get? b = some o) →
        (∀ o₀, st₁.heap.get? a = some o₀ → ∃ o₁, h'.get? a = some o₁ ∧ o₁.cls = o₀.cls ∧ o₁.data = o₀.data ∧ o₁.slots = o₀.slots ∧ ∀ dx, o₀.dict = some dx → o₁.dict = some dx) →
        Ok C (s₁.put p.1 (.attrs (setS "_headers" v p.2))) ρ₁ { st₁ with heap := h', toks := tk' } := by
      intro h' tk' I' hk hs
      obtain ⟨⟨oc, od, oda, osl⟩, go, c1, c2, c3, c4⟩ := hs _ g
      have c5 := c4 dx rfl
      clear c4
      dsimp only at c1 c2 c3 c5
      subst c1 c2 c3 c5
      have ext : Heap.ExtBut dx st₁.heap h' := by
        intro b o hb e
        by_cases hba : b = a
        · subst hba; rw [g] at e; cases e; exact go
        · exact hk b o hba (fun o₀ d' e₀ ed => by rw [g] at e₀; cases e₀; cases ed; exact hb) e
      obtain ⟨o', g', _, _, hd⟩ := I'
      rw [go] at g'; cases g'
      rcases hd with ⟨hn, _⟩ | ⟨d', hd', _, od, es, ep, gd, hdat, sk, uk, hf⟩
      · cases hn
      · cases hd'
        refine (O₁.put e2 qd gd ext (o := .attrs (setS "_headers" v p.2)) ⟨_, ⟨es, ep, hdat, sk, uk, hf⟩, mv.set (rv.mono q₁), ?_⟩).tok tk'
        intro y hy
        by_cases hyx : y = "_headers"
        · simp [hyx]
        · simp only [hyx, if_false] at hy
          exact wi y hy
    obtain ⟨hp', gg, d, t, os⟩ := st₁
    refine store_attr PySem.F.store_object (O₁.1.keep _ _ gC) (gN.keeps O₁.1.keep) f3 f4 lk_headers hxC I (fun h' tk' I' hk hs => ?_) wi (by simp [sizeLine_eq])
    exact relS_ok ⟨ρ₁, q₁, aft h' tk' I' hk hs, trivial⟩ _
  · cases h
end
end Mine

namespace Mine
section
open PySem PySem.W PyProof.Rows PySem.Calls PySem.Spec
set_option maxRecDepth 100000
variable {C : Cx} {n : Nat} {r : Ev} {A : Around} {E : AEnv} {env : Env} {s s' : VS} {ρ : List Addr} {st : Shared}

theorem evsR_star {es : List Expr} : ∀ {s s' : VS} {vs : List AV}, evsR r E es s = some (vs, s') → ∀ (pos : Pos) (env : Env), (backTo pos (starEach es env)).any (·.1) = false ∧ (backTo pos (starEach es env)).length = es.length ∧ (backTo pos (starEach es env)).all (!·.1) = true := by
  induction es with
  | nil => intro s s' vs h pos env; exact ⟨rfl, rfl, rfl⟩
  | cons e es ih =>
    intro s s' vs h pos env
    unfold evsR at h
    split at h
    · rename_i hn
      obtain ⟨v, s₁, h1, h⟩ := on_some h
      obtain ⟨us, s₂, h2, h⟩ := on_some h
      obtain ⟨a, b, c⟩ := ih h2 pos env
      rw [starEach_cons hn]
      have e : backTo pos ((false, eval e env) :: starEach es env) = (false, eval e env) :: backTo pos (starEach es env) := rfl
      rw [e]
      refine ⟨?_, ?_, ?_⟩
      · rw [List.any_cons, a]; rfl
      · rw [List.length_cons, List.length_cons, b]
      · rw [List.all_cons, c]; rfl
    · cases h
theorem KwR.zip {ρ : List Addr} {ks : List AV} {ws : List Value} (al : AllV C ρ ks ws) : ∀ names : List Str, KwR C ρ (names.zip ks) (names.zip ws) := by
  induction al with
  | nil => intro names; cases names <;> exact .nil
  | cons a _ ih =>
    intro names
    cases names with
    | nil => exact .nil
    | cons x names => exact .cons a (ih names)
/-- the arguments -/
theorem args_ok (S : Snd C n r) (hA : AOk n A) {args : List Expr} {kws : List Keyword} {p : List AV × List AV} (f : Value) (pos : Pos) (h : evArgs r E args kws s = some (p, s')) (O : Ok C s ρ st) (V : EnvR C ρ E env) (Ex) :
    wpAny (M C) A (evalArgs f true (backTo pos (starEach args env)) (backToKw pos (keywordEach kws env))) (Post C ρ s' fun ρ' a => AllV C ρ' p.1 a.pos ∧ KwR C ρ' (kwZip kws p.2) a.kw) Ex st := by
  unfold evArgs at h
  split at h
  · rename_i hk
    obtain ⟨vs, s₁, h1, h⟩ := on_some h
    obtain ⟨ks, s₂, h2, h⟩ := on_some h
    cases h
    have hall : (backToKw pos (keywordEach kws env)).all (·.1.isSome) = true := by rw [some_ok]; exact hk
    cases args with
    | nil =>
      cases h1
      refine evalArgs_kw_nil hall (seqT (evsK_ok S hA pos Ex h2 O V) fun ws ρ₁ st₁ q₁ O₁ al => ⟨ρ₁, q₁, O₁, .nil, ?_⟩)
      rw [names_ok]
      exact KwR.zip al _
    | cons e es =>
      have st1 := evsR_star h1 pos env
      have hE := evs_ok S hA pos Ex h1 O V
      unfold evsR at h1
      split at h1
      · rename_i hn
        rw [starEach_cons hn] at hE ⊢
        refine evalArgs_kw hall (seqT hE fun ws ρ₁ st₁ q₁ O₁ al => seqT (evsK_ok S hA pos Ex h2 O₁ (V.mono q₁)) fun us ρ₂ st₂ q₂ O₂ al₂ => ⟨ρ₂, q₁.trans q₂, O₂, al.mono q₂, ?_⟩)
        rw [names_ok]
        exact KwR.zip al₂ _
      · cases h1
  · cases h
/-- a call of a value that is no reference -/
theorem callW_val {f : Value} {pos : Pos} {first : List Value} {args : List (Bool × Sem Value)} {keywords : List (Option Str × Sem Value)} {Q : Value → Shared → Prop} {Ex : Value → Shared → Prop} (hf : ∀ a, f ≠ .ref a)
    (h : wpAny (M C) A (evalArgs f true args keywords) (fun a s₁ => wpAny (M C) A (call f (first ++ a.pos) a.kw) Q Ex s₁) Ex st) : wpAny (M C) A (callWith pos f first args keywords) Q Ex st := by
  unfold callWith
  refine wpAny_bind (wpAny_holding (wpAny_mono h (fun a s₁ h₁ => wpAny_bind (wpAny_standAt ?_)) fun _ _ x => x))
  have tail : ∀ {t : Sem Value}, wpAny (M C) A t Q Ex s₁ → wpAny (M C) A (t >>= fun r => holding [r] point >>= fun _ => pure r) Q Ex s₁ :=
    fun ht => wpAny_bind (wpAny_mono ht (fun r s₂ hr => wpAny_bind (wpAny_holding (wpAny_point (wpAny_pure hr)))) fun _ _ x => x)
  have hk : keeperOf f = pure .machine := by
    unfold keeperOf
    cases f <;> first | rfl | exact absurd rfl (hf _)
  rw [hk]
  refine wpAny_bind (wpAny_pure ?_)
  cases (args.any (·.1) || keywords.any (·.1.isNone)) with
  | true => exact tail (wpAny_operating h₁)
  | false => exact tail h₁
theorem BI.noRef (b : BI) : ∀ a, b.val ≠ .ref a := by cases b <;> (intro a h; cases h)
theorem MI.noRef (m : MI) : ∀ a, Value.builtin m.id ≠ .ref a := by intro a h; cases h
theorem kwZip_nil (ks : List AV) : kwZip [] ks = [] := rfl
end
end Mine

namespace Mine
section
open PySem PySem.W PyProof.Rows PySem.Calls PySem.Spec
set_option maxRecDepth 100000
variable {C : Cx} {n : Nat} {r : Ev} {A : Around} {E : AEnv} {env : Env} {s s' : VS} {ρ : List Addr} {st : Shared}

theorem Ok.frame (O : Ok C s ρ st) (cls : Value) : Ok C s.push (ρ ++ [st.heap.objs.size]) { st with heap := st.heap.push { cls, data := .dict #[] } } := by
  refine O.heap (O.1.push ?_ (Heap.Ns.new st.heap cls) (fun b x e => Heap.get?_push_of_some _ e))
  cases e : st.heap.get? st.heap.objs.size with
  | none => rfl
  | some x => exact absurd (Heap.lt_size e) (Nat.lt_irrefl _)
def CellR (ρ : List Addr) (l : List (Str × Nat)) (m : List (Str × Addr)) : Prop := ∀ x c, lookS x l = some c → ∃ a, m.lookup x = some a ∧ ρ[c]? = some a
theorem CellR.mono {ρ ρ' : List Addr} {l : List (Str × Nat)} {m : List (Str × Addr)} (h : ρ <+: ρ') (r : CellR ρ l m) : CellR ρ' l m := fun x c e => let ⟨a, q, z⟩ := r x c e; ⟨a, q, pre_get h z⟩
theorem CellR.cons {ρ : List Addr} {l : List (Str × Nat)} {m : List (Str × Addr)} (r : CellR ρ l m) {x : Str} {c : Nat} {a : Addr} (h : ρ[c]? = some a) : CellR ρ ((x, c) :: l) ((x, a) :: m) := by
  intro y d e
  rw [lookS_eq, List.lookup_cons] at e
  rw [List.lookup_cons]
  cases hb : (y == x) with
  | true => rw [hb] at e; cases e; exact ⟨a, rfl, h⟩
  | false => rw [hb] at e; exact r y d (by rw [lookS_eq]; exact e)
theorem cells_ok : ∀ (names : List (Str × NameKind)) (s : VS) (ρ : List Addr) (st : Shared) (acc : List (Str × Nat)) (m : List (Str × Addr)), Ok C s ρ st → CellR ρ acc m →
    ∃ ρ', ρ <+: ρ' ∧ Ok C (cellsA names s acc).2 ρ' { st with heap := pushCells st.heap names } ∧ CellR ρ' (cellsA names s acc).1 (cellsFrom st.heap.objs.size names m) := by
  intro names
  induction names with
  | nil => intro s ρ st acc m O R; exact ⟨ρ, List.prefix_refl _, O, R⟩
  | cons p names ih =>
    intro s ρ st acc m O R
    obtain ⟨x, k⟩ := p
    by_cases hk : k = .cell
    · subst hk
      have pre : ρ <+: ρ ++ [st.heap.objs.size] := List.prefix_append ..
      have O1 : Ok C (s.new (.cell none)) (ρ ++ [st.heap.objs.size]) { st with heap := st.heap.push { cls := .type "cell", data := .cell none } } := O.push fun a => ⟨none, rfl, trivial⟩
      have R1 : CellR (ρ ++ [st.heap.objs.size]) ((x, s.nx) :: acc) ((x, st.heap.objs.size) :: m) := (R.mono pre).cons (by rw [← O.1.len]; simp)
      obtain ⟨ρ', q, O2, R2⟩ := ih _ _ _ _ _ O1 R1
      refine ⟨ρ', pre.trans q, O2, ?_⟩
      have e : cellsFrom st.heap.objs.size ((x, .cell) :: names) m = cellsFrom (st.heap.objs.size + 1) names ((x, st.heap.objs.size) :: m) := rfl
      rw [e]
      have e2 : ({ st with heap := st.heap.push { cls := .type "cell", data := .cell none } } : Shared).heap.objs.size = st.heap.objs.size + 1 := Heap.size_push ..
      rw [e2] at R2
      exact R2
    · have e1 : cellsA ((x, k) :: names) s acc = cellsA names s acc := by cases k <;> first | rfl | exact absurd rfl hk
      have e2 : cellsFrom st.heap.objs.size ((x, k) :: names) m = cellsFrom st.heap.objs.size names m := by cases k <;> first | rfl | exact absurd rfl hk
      have e3 : pushCells st.heap ((x, k) :: names) = pushCells st.heap names := by cases k <;> first | rfl | exact absurd rfl hk
      rw [e1, e2, e3]
      exact ih s ρ st acc m O R
theorem stores_ok {M' : Model} (hM : M' = M C) (f : Str × Value → PUnit → Sem (ForInStep PUnit)) (hf : ∀ n v u, f (n, v) u = (do storeName env n v; pure (.yield ⟨⟩))) (Ex) : ∀ {bs : List (Str × AV)} {binds : List (Str × Value)} {s s' : VS} {ρ : List Addr} {st : Shared},
    storesA E bs s = some s' → KwR C ρ bs binds → Ok C s ρ st → EnvR C ρ E env → wpAny (M C) A (forIn binds ⟨⟩ f) (Post C ρ s' fun _ _ => True) Ex st := by
  intro bs
  induction bs with
  | nil => intro binds s s' ρ st h k O V; cases h; cases k; rw [List.forIn_nil]; exact wpAny_pure (O.post trivial)
  | cons p bs ih =>
    intro binds s s' ρ st h k O V
    cases k with
    | cons a k =>
      obtain ⟨s₁, h1, h⟩ := andThen_some h
      rw [List.forIn_cons, hf]
      refine wpAny_bind (wpAny_bind (seqT (store_ok O V h1 a Ex) fun _ ρ₁ st₁ q₁ O₁ _ => wpAny_pure ?_))
      exact wpAny_mono (ih h (k.mono q₁) O₁ (V.mono q₁)) (fun _ _ p => p.up q₁) fun _ _ x => x
/-- a function's own environment -/
theorem newEnv_ok {scope : Scope} {closure : List (Str × Addr)} {cl : List (Str × Nat)} {bs : List (Str × AV)} {binds : List (Str × Value)} {qual : Str} {func : Option Addr} {code : Value}
    (hk : scope.kind = .function) (h : storesA ⟨scope, s.nx, (cellsA scope.names s.push cl).1⟩ bs (cellsA scope.names s.push cl).2 = some s') (O : Ok C s ρ st) (hc : CellR ρ cl closure) (hb : KwR C ρ bs binds) (Ex) :
    wpAny (M C) A (newFunctionEnv scope mainGlobals closure binds qual func code none builtinsNs) (Post C ρ s' fun ρ' env => EnvR C ρ' ⟨scope, s.nx, (cellsA scope.names s.push cl).1⟩ env) Ex st := by
  simp only [newFunctionEnv, Option.isSome_none, Bool.false_eq_true, if_false]
  refine wpAny_bind (wpAny_alloc ?_)
  refine wpAny_bind (wpAny_layCells _ (fun name kind cells => by cases hkc : kind == NameKind.cell <;> simp [hkc]) _ _ _ _ ?_)
  have pre : ρ <+: ρ ++ [st.heap.objs.size] := List.prefix_append ..
  have here : (ρ ++ [st.heap.objs.size])[s.nx]? = some st.heap.objs.size := by rw [← O.1.len]; simp
  obtain ⟨ρ', q, O2, R2⟩ := cells_ok scope.names s.push _ _ cl closure (O.frame (.type "frame")) (hc.mono pre)
  have V : EnvR C ρ' ⟨scope, s.nx, (cellsA scope.names s.push cl).1⟩ { scope, locals := st.heap.objs.size, globals := mainGlobals, cells := cellsFrom (st.heap.push { cls := .type "frame", data := .dict #[] }).objs.size scope.names closure, qual, func, code, frame := some st.heap.objs.size, builtins := builtinsNs } :=
    ⟨rfl, hk, pre_get q here, rfl, rfl, R2⟩
  refine wpAny_bind (seqT (stores_ok rfl _ (fun _ _ _ => rfl) Ex h (hb.mono (pre.trans q)) O2 V) fun _ ρ₃ st₃ q₃ O₃ _ => wpAny_pure ⟨ρ₃, (pre.trans q).trans q₃, O₃, V.mono q₃⟩)
/-- a comprehension's own environment -/
theorem compEnv_ok {scope : Scope} {closure : List (Str × Addr)} {cl : List (Str × Nat)} {outer : Env} (hk : scope.kind = .function) (O : Ok C s ρ st) (V : EnvR C ρ E outer) (hc : CellR ρ cl closure) (Ex) :
    wpAny (M C) A (newFunctionEnv scope outer.globals closure [] outer.qual none .none (some outer)) (Post C ρ (cellsA scope.names s.push cl).2 fun ρ' env => EnvR C ρ' ⟨relabelA scope E.scope, s.nx, (cellsA scope.names s.push cl).1⟩ { env with scope := relabel scope outer } ∧ ρ'[s.nx]? = some env.locals) Ex st := by
  simp only [newFunctionEnv, Option.isSome_some, if_true]
  refine wpAny_bind (wpAny_alloc ?_)
  refine wpAny_bind (wpAny_layCells _ (fun name kind cells => by cases hkc : kind == NameKind.cell <;> simp [hkc]) _ _ _ _ ?_)
  have pre : ρ <+: ρ ++ [st.heap.objs.size] := List.prefix_append ..
  have here : (ρ ++ [st.heap.objs.size])[s.nx]? = some st.heap.objs.size := by rw [← O.1.len]; simp
  obtain ⟨ρ', q, O2, R2⟩ := cells_ok scope.names s.push _ _ cl closure (O.frame (.type "dict")) (hc.mono pre)
  refine wpAny_bind (wpAny_pure (wpAny_pure ⟨ρ', pre.trans q, O2, ⟨?_, hk, pre_get q here, V.glob, V.bi, R2⟩, pre_get q here⟩))
  show relabel scope outer = relabelA scope E.scope
  unfold relabel relabelA
  have ek : ∀ x, outer.kindOf x = E.scope.names.lookup x := fun x => by rw [kindOf_eq V, lookS_eq]
  simp only [ek, V.scope]
end
end Mine

namespace Mine
section
open PySem PySem.W PyProof.Rows PySem.Calls PySem.Spec
set_option maxRecDepth 100000
variable {C : Cx} {n : Nat} {r : Ev} {A : Around} {E : AEnv} {env : Env} {s s' : VS} {ρ : List Addr} {st : Shared}

theorem Ok.pop (O : Ok C s ρ st) : Ok C s.pop ρ st := ⟨O.1.pop, O.2⟩
/-- statements, one after another -/
theorem exs_ok (S : Snd C n r) (hA : AOk n A) (Ex) : ∀ {ss : List Stmt} {s s' : VS} {ρ : List Addr} {st : Shared} {f : AF}, exsR r E ss s = some (f, s') → Ok C s ρ st → EnvR C ρ E env →
    wpAny (M C) A (execs ss env) (Post C ρ s' fun ρ' g => FlowR C ρ' f g) Ex st := by
  intro ss
  induction ss with
  | nil => intro s s' ρ st f h O V; cases h; exact wpAny_execs_nil (O.post rfl)
  | cons t ss ih =>
    intro s s' ρ st f h O V
    obtain ⟨g, s₁, h1, h⟩ := on_some h
    refine wpAny_execs_cons (seqT (S.ex h1 hA O V Ex) fun w ρ₁ st₁ q₁ O₁ rf => ?_)
    cases g with
    | next =>
      cases rf
      exact wpAny_mono (ih h O₁ (V.mono q₁)) (fun _ _ p => p.up q₁) fun _ _ x => x
    | brk => cases rf; cases h; exact ⟨ρ₁, q₁, O₁, rfl⟩
    | cont => cases rf; cases h; exact ⟨ρ₁, q₁, O₁, rfl⟩
    | ret v =>
      obtain ⟨u, rfl, ru⟩ := rf
      cases h
      exact ⟨ρ₁, q₁, O₁, u, rfl, ru⟩
/-- a function's call -/
theorem cal_ok (G : Glob C) (S : Snd C n r) (hA : AOk (n + 1) A) {f : Nat} {vs : List AV} {kw : List (Str × AV)} {v : AV} {ws : List Value} {kws : List (Str × Value)} (h : mkCal C.S r f vs kw s = some (v, s')) (O : Ok C s ρ st) (al : AllV C ρ vs ws) (k : KwR C ρ kw kws)
    (R : Result → Shared → Prop) (hR : ∀ w st', PV C ρ s' v w st' → R (.ok (.ret w)) st') : codeAny (M C) A (.call (.ref f) ⟨ws, kws⟩) R st := by
  obtain ⟨F, hF, h⟩ := andThen_some h
  obtain ⟨o, fd, ho, hd, hb, hs, hcl, hg, hbi, hcd, hco, hgen, hk, bind⟩ := (G.fn f F hF).ok
  obtain ⟨bs, hbs, h⟩ := andThen_some h
  obtain ⟨bk, hbk, h⟩ := andThen_some h
  refine codeAny_call_function hA.room (O.1.keep _ _ ho) hd (by rw [hs]; exact hco) (by rw [hs]; exact hgen) hb (hcd.keeps O.1.keep) ?_
  refine seqT (bind A.in1 _ s ρ st vs kw bs bk ws kws hbs hbk O al k) fun binds ρ₁ st₁ q₁ O₁ kb => ?_
  generalize kwArg F.params.kwarg (bs ++ bk) s = kp at h kb O₁
  obtain ⟨b1, s1⟩ := kp
  dsimp only at h kb O₁
  rw [hg, hcl, hbi, hs]
  replace h : callBody r ⟨F.scope, s1.nx, (cellsA F.scope.names s1.push []).1⟩ F.body b1 (cellsA F.scope.names s1.push []).2 = some (v, s') := h
  cases hce : cellsA F.scope.names s1.push [] with
  | mk cells s2 =>
    rw [hce] at h
    dsimp only at h
    obtain ⟨s3, h3, h⟩ := andThen_some h
    obtain ⟨fl, s4, h4, h⟩ := on_some h
    have h3' : storesA ⟨F.scope, s1.nx, (cellsA F.scope.names s1.push []).1⟩ b1 (cellsA F.scope.names s1.push []).2 = some s3 := by rw [hce]; exact h3
    refine seqT (newEnv_ok hk h3' O₁ (cl := []) (closure := []) (fun x c e => by cases e) kb _) fun env ρ₂ st₂ q₂ O₂ V => ⟨G.lim.keeps O₂.1.keep, codeAny_func ?_⟩
    rw [hce] at V
    refine seqT (exs_ok S (hA.deeper env) _ h4 O₂ V) fun g ρ₃ st₃ q₃ O₃ rf => ?_
    cases fl with
    | next =>
      cases rf
      cases h
      exact hR _ _ ⟨ρ₃, (q₁.trans q₂).trans q₃, O₃.pop, rfl⟩
    | ret u =>
      obtain ⟨x, rfl, rx⟩ := rf
      cases h
      exact hR _ _ ⟨ρ₃, (q₁.trans q₂).trans q₃, O₃.pop, rx⟩
    | _ => cases h
end
end Mine

namespace Mine
section
open PySem PySem.W PyProof.Rows PySem.Calls PySem.Spec
set_option maxRecDepth 100000
variable {C : Cx} {n : Nat} {r : Ev} {A : Around} {E : AEnv} {env : Env} {s s' : VS} {ρ : List Addr} {st : Shared}

theorem AOk.make (hA : AOk (n + 1) A) {c : Addr} {vs : List Value} {kw : List (Str × Value)} : AOk n (A.under (.builtin "type.__call__" ⟨.ref c :: vs, kw⟩)) := by
  have e1 : Code.weight (.builtin "type.__call__" ⟨.ref c :: vs, kw⟩) = 1 := by
    have g : (Code.builtin "type.__call__" ⟨.ref c :: vs, kw⟩).isGuard = false := by show guardIds.contains "type.__call__" = false; decide +kernel
    unfold Code.weight
    rw [g]
    rfl
  have e2 : Code.cUnits (.builtin "type.__call__" ⟨.ref c :: vs, kw⟩) = 1 := rfl
  refine ⟨hA.h, ?_, ?_⟩
  · show A.depth + Code.weight _ + n ≤ 900
    rw [e1]
    have := hA.d
    omega
  · show A.units + Code.cUnits _ + 8 * n ≤ 9000
    rw [e2]
    have := hA.u
    omega
/-- a new table -/
theorem make_ok (G : Cls C) (S : Snd C n r) (hA : AOk (n + 1) A) {vs : List AV} {v : AV} {ws : List Value} (h : evMake C.S r vs s = some (v, s')) (O : Ok C s ρ st) (al : AllV C ρ vs ws) (Ex) :
    wpAny (M C) A (call (.ref C.S.cls) ws []) (PV C ρ s' v) Ex st := by
  obtain ⟨u, s₁, h1, h⟩ := on_some h
  cases u with
  | none =>
    cases h
    obtain ⟨K, X, m1, m2, m3⟩ := G.make
    have X := Frag.In.keeps X O.1.keep
    refine wpAny_call ?_
    have pre : ρ <+: ρ ++ [st.heap.objs.size] := List.prefix_append ..
    have pre2 : ρ ++ [st.heap.objs.size] <+: ρ ++ [st.heap.objs.size] ++ [st.heap.objs.size + 1] := List.prefix_append ..
    have O1 : Ok C (s.new (.attrs [])) (ρ ++ [st.heap.objs.size]) { st with heap := st.heap.push emptyDict } :=
      O.push fun a => ⟨fun _ => none, ⟨#[], 0, rfl, fun _ he => by simp at he, List.Pairwise.nil, fun _ => rfl⟩, (fun x v e => by cases e), fun y hy => absurd rfl hy⟩
    have O2 : Ok C ((s.new (.attrs [])).new (.inst s.nx)) (ρ ++ [st.heap.objs.size] ++ [st.heap.objs.size + 1]) { st with heap := (st.heap.push emptyDict).push (instObj C.S.cls st.heap.objs.size) } := by
      have := O1.push (ob := instObj C.S.cls st.heap.objs.size) (o := .inst s.nx) fun a => ⟨st.heap.objs.size, pre_get (List.prefix_append ..) (by rw [← O.1.len]; simp), #[], rfl⟩
      dsimp only at this
      rw [Heap.size_push] at this
      exact this
    have here : (ρ ++ [st.heap.objs.size] ++ [st.heap.objs.size + 1])[s.nx + 1]? = some (st.heap.objs.size + 1) := by rw [← O.1.len]; simp
    obtain ⟨hh, g, d, t, os⟩ := st
    refine make_core (makes_of X m1) (looks_findIn X m2) (fun self => bind_fn X self m3) (.inl rfl) ?_
    refine S.cal h1 hA.make O2 (.cons ⟨_, here, rfl⟩ (al.mono (pre.trans pre2))) .nil _ fun w st' p => ?_
    obtain ⟨ρ', q, O', rw'⟩ := p
    cases rw'
    exact ⟨rfl, ρ', (pre.trans pre2).trans q, O', _, pre_get q here, rfl⟩
  | _ => cases h
/-- a call of a function -/
theorem callW_fn (G : Glob C) {a : Nat} {F : Fn} (hF : lookN a C.S.fn = some F) {pos : Pos} {first : List Value} {args : List (Bool × Sem Value)} {keywords : List (Option Str × Sem Value)} {P : List Addr → Args → Prop} {v : AV} {s₁ : VS} {Ex : Value → Shared → Prop}
    (h : wpAny (M C) A (evalArgs (.ref a) true args keywords) (Post C ρ s₁ P) Ex st)
    (h2 : ∀ x ρ' st', ρ <+: ρ' → Ok C s₁ ρ' st' → P ρ' x → wpAny (M C) A (call (.ref a) (first ++ x.pos) x.kw) (PV C ρ' s' v) Ex st') :
    wpAny (M C) A (callWith pos (.ref a) first args keywords) (PV C ρ s' v) Ex st := by
  obtain ⟨o, fd, ho, hd, _⟩ := (G.fn a F hF).ok
  exact callWith_function_kw (o := o) (fd := fd) (seqT h fun x ρ₁ st₁ q₁ O₁ p => ⟨⟨O₁.1.keep _ _ ho, hd⟩, wpAny_mono (h2 x ρ₁ st₁ q₁ O₁ p) (fun _ _ z => z.up q₁) fun _ _ z => z⟩)
/-- a call of the class -/
theorem callW_cls (G : Cls C) {pos : Pos} {first : List Value} {args : List (Bool × Sem Value)} {keywords : List (Option Str × Sem Value)} {P : List Addr → Args → Prop} {v : AV} {s₁ : VS} {Ex : Value → Shared → Prop}
    (h : wpAny (M C) A (evalArgs (.ref C.S.cls) true args keywords) (Post C ρ s₁ P) Ex st)
    (h2 : ∀ x ρ' st', ρ <+: ρ' → Ok C s₁ ρ' st' → P ρ' x → wpAny (M C) A (call (.ref C.S.cls) (first ++ x.pos) x.kw) (PV C ρ' s' v) Ex st') :
    wpAny (M C) A (callWith pos (.ref C.S.cls) first args keywords) (PV C ρ s' v) Ex st := by
  obtain ⟨K, X, m1, _⟩ := G.make
  unfold callWith
  refine wpAny_bind (wpAny_holding (seqT h fun x ρ₁ st₁ q₁ O₁ p => wpAny_bind (wpAny_standAt ?_)))
  have Y := makes_of (M := M C) (Frag.In.keeps X O₁.1.keep) m1
  have k := wpAny_mono (h2 x ρ₁ st₁ q₁ O₁ p) (fun _ _ z => z.up q₁) fun _ _ z => z
  have tail : ∀ {t : Sem Value}, wpAny (M C) A t (PV C ρ s' v) Ex st₁ → wpAny (M C) A (t >>= fun r => holding [r] point >>= fun _ => pure r) (PV C ρ s' v) Ex st₁ :=
    fun ht => wpAny_bind (wpAny_mono ht (fun r s₂ hr => wpAny_bind (wpAny_holding (wpAny_point (wpAny_pure hr)))) fun _ _ x => x)
  obtain ⟨oc, od, cd, sl, hC, e1, e2, e4⟩ := Y.obj
  refine wpAny_bind (m := keeperOf (.ref C.S.cls)) ?_
  unfold keeperOf
  refine wpAny_bind (wpAny_load hC ?_)
  dsimp only
  refine wpAny_bind (Y.call.here ?_)
  simp only [beq_self_eq_true, if_true]
  refine wpAny_pure ?_
  cases (args.any (·.1) || keywords.any (·.1.isNone)) with
  | true => exact tail (wpAny_operating k)
  | false => exact tail k
theorem callV_ok (G : Glob C) (G2 : Cls C) (S : Snd C n r) (hA : AOk (n + 1) A) {f : AV} {args : List Expr} {kws : List Keyword} {p : List AV × List AV} {pos : Pos} {v : AV} {s₁ : VS} {w : Value} (h1 : evArgs r E args kws s = some (p, s₁)) (h : evCallV C.S r f kws p.1 p.2 s₁ = some (v, s'))
    (O : Ok C s ρ st) (V : EnvR C ρ E env) (rf : VRel C ρ f w) (Ex) :
    wpAny (M C) A (callWith pos w [] (backTo pos (starEach args env)) (backToKw pos (keywordEach kws env))) (PV C ρ s' v) Ex st := by
  have hA' : AOk n A := hA.mono (Nat.le_succ n)
  unfold evCallV at h
  split at h
  · rename_i u
    cases rf
    split at h
    · rename_i a
      split at h
      · rename_i ha
        have := Nat.eq_of_beq_eq_true ha
        subst this
        split at h
        · exact callW_cls G2 (args_ok S hA' _ pos h1 O V Ex) fun x ρ₁ st₁ q₁ O₁ ⟨al, k⟩ => by
            cases k' : x.kw with
            | nil => exact make_ok G2 S hA h O₁ al Ex
            | cons a b => rw [k'] at k; cases k
        · cases h
      · obtain ⟨F, hF, h⟩ := andThen_some h
        exact callW_fn G hF (args_ok S hA' _ pos h1 O V Ex) fun x ρ₁ st₁ q₁ O₁ ⟨al, k⟩ =>
          wpAny_call (S.cal h hA' O₁ al k _ fun w st' p => p)
    · obtain ⟨b, hb, h2⟩ := andThen_some h
      clear h
      have := biOf_some hb
      subst this
      split at h2
      · refine callW_val (BI.noRef b) (seqT (args_ok S hA' _ pos h1 O V Ex) fun x ρ₁ st₁ q₁ O₁ ⟨al, k⟩ => ?_)
        have e : x.kw = [] := by
          cases k' : x.kw with
          | nil => rfl
          | cons a b => rw [k'] at k; cases k
        rw [e]
        exact wpAny_mono (callS_ok G hA.h h2 O₁ al Ex) (fun _ _ p => p.up q₁) fun _ _ x => x
      · cases h2
  · cases h
end
end Mine

namespace Mine
section
open PySem PySem.W PyProof.Rows PySem.Calls PySem.Spec
set_option maxRecDepth 100000
variable {C : Cx} {n : Nat} {r : Ev} {A : Around} {E : AEnv} {env : Env} {s s' : VS} {ρ : List Addr} {st : Shared}

theorem kw_len (pos : Pos) (env : Env) : ∀ kws : List Keyword, (backToKw pos (keywordEach kws env)).length = kws.length := by
  intro kws
  induction kws with
  | nil => rfl
  | cons k kws ih =>
    obtain ⟨name, value, kp⟩ := k
    show List.length (_ :: backToKw pos (keywordEach kws env)) = _
    rw [List.length_cons, List.length_cons, ih]
theorem few_ok {args : List Expr} {kws : List Keyword} {apos pos : Pos} (h : okCall args kws apos pos = true) (pos' : Pos) (env : Env) (ha : (backTo pos' (starEach args env)).all (!·.1) = true) (hk : kws.all (·.arg.isSome) = true) :
    methodCallForm (args.length + kws.length) (backTo pos' (starEach args env)) (backToKw pos' (keywordEach kws env)) = true ∧ (apos.endLine == pos.line) = true := by
  unfold okCall at h
  rw [Bool.and_eq_true] at h
  refine ⟨?_, h.2⟩
  have hn := Nat.le_of_ble_eq_true h.1
  unfold methodCallForm
  rw [ha, some_ok, hk]
  simp only [Bool.true_and, decide_eq_true_eq]
  split <;> omega
theorem eval_CallA (o : Expr) (x : Str) (apos pos : Pos) (args : List Expr) (kws : List Keyword) (env : Env) : eval (.Call (.Attribute o x apos) args kws pos) env = (do
    let ov ← attributeBase o x env (eval o env)
    standAt apos.atName
    methodCall o x apos pos env ov (args.length + kws.length) (backTo pos (starEach args env)) (backToKw pos (keywordEach kws env))) := rfl
/-- the head of a method's call -/
theorem methCall_ok {o : Expr} {x : Str} {apos pos : Pos} {args : List (Bool × Sem Value)} {kws : List (Option Str × Sem Value)} {k : Nat} {w f : Value} {first : List Value} {Q : Value → Shared → Prop} {Ex : Value → Shared → Prop}
    (hf : methodCallForm k args kws = true) (hl : (apos.endLine == pos.line) = true) (hm : ∀ (pl : Sem Bool) (Q' : Value × List Value → Shared → Prop), Q' (f, first) st → wpAny (M C) A (getMethod w x pl) Q' Ex st)
    (h : wpAny (M C) A (callWith pos f first args kws) Q Ex st) : wpAny (M C) A (methodCall o x apos pos env w k args kws) Q Ex st := by
  unfold methodCall
  rw [hf]
  refine wpAny_bind (wpAny_holding ?_)
  show wpAny _ _ (getMethod w x _) _ _ _
  refine hm _ _ ?_
  have e : methodCallPos true o env apos pos = pure pos := by
    unfold methodCallPos
    rw [hl]
    rfl
  dsimp only
  rw [e]
  exact wpAny_bind (wpAny_pure h)
theorem evArgs_some {args : List Expr} {kws : List Keyword} {p : List AV × List AV} (h : evArgs r E args kws s = some (p, s')) (pos : Pos) (env : Env) : (backTo pos (starEach args env)).all (!·.1) = true ∧ kws.all (·.arg.isSome) = true := by
  unfold evArgs at h
  split at h
  · rename_i hk
    obtain ⟨vs, s₁, h1, h⟩ := on_some h
    exact ⟨(evsR_star h1 pos env).2.2, hk⟩
  · cases h
theorem methX_ok (G : Glob C) (G2 : Cls C) (S : Snd C n r) (hA : AOk (n + 1) A) {o : Expr} {x : Str} {args : List Expr} {kws : List Keyword} {apos pos : Pos} {v : AV} (hc : okCall args kws apos pos = true) (h : evMeth C.S r E o x args kws s = some (v, s'))
    (O : Ok C s ρ st) (V : EnvR C ρ E env) (Ex) : wpAny (M C) A (eval (.Call (.Attribute o x apos) args kws pos) env) (PV C ρ s' v) Ex st := by
  have hA' : AOk n A := hA.mono (Nat.le_succ n)
  unfold evMeth at h
  split at h
  · rename_i hb
    obtain ⟨w, s₁, h1, h⟩ := on_some h
    rw [eval_CallA, base_plain hb]
    refine wpAny_bind (seqT (S.ev h1 hA' O V Ex) fun vo ρ₁ st₁ q₁ O₁ ro => wpAny_bind (wpAny_standAt ?_))
    refine wpAny_mono (Q := PV C ρ₁ s' v) ?_ (fun _ _ p => p.up q₁) fun _ _ x => x
    unfold evMethO at h
    split at h
    · rename_i p hp
      split at h
      · rename_i hs
        obtain ⟨f, hf, h⟩ := andThen_some h
        obtain ⟨F, hF, h⟩ := andThen_some h
        obtain ⟨p2, s₂, h2, h⟩ := on_some h
        obtain ⟨a1, a2⟩ := evArgs_some h2 pos env
        obtain ⟨f1, f2⟩ := few_ok hc pos env a1 a2
        refine methCall_ok f1 f2 (fun pl Q' q => hasMeth_ok G2 hp hf O₁ ro q Ex) ?_
        exact callW_fn G hF (args_ok S hA' _ pos h2 O₁ (V.mono q₁) Ex) fun x ρ₂ st₂ q₂ O₂ ⟨al, k⟩ =>
          wpAny_call (S.cal h hA' O₂ (.cons (ro.mono q₂) al) k _ fun w st' p => p)
      · cases h
    · obtain ⟨m, hm, h⟩ := andThen_some h
      obtain ⟨u, hu, h⟩ := andThen_some h
      split at h
      · obtain ⟨vs, s₂, h2, h⟩ := on_some h
        have h2' : evArgs r E args [] s₁ = some ((vs, []), s₂) := by
          unfold evArgs
          show (on (evsR r E args s₁) fun vs s => on (evsR r E [] s) fun ks s => some ((vs, ks), s)) = _
          rw [h2]; rfl
        obtain ⟨a1, a2⟩ := evArgs_some h2' pos env
        obtain ⟨f1, f2⟩ := few_ok hc pos env a1 a2
        refine methCall_ok f1 f2 (fun pl Q' q => has_ok G hm hu O₁ ro q Ex) ?_
        refine callW_val (MI.noRef m) (seqT (args_ok S hA' _ pos h2' O₁ (V.mono q₁) Ex) fun x ρ₂ st₂ q₂ O₂ ⟨al, k⟩ => ?_)
        have e : x.kw = [] := by
          cases k' : x.kw with
          | nil => rfl
          | cons a b => rw [k'] at k; cases k
        rw [e]
        exact wpAny_mono (meth_ok G h O₂ (ro.mono q₂) al Ex) (fun _ _ p => p.up q₂) fun _ _ x => x
      · cases h
  · cases h
theorem callX_ok (G : Glob C) (G2 : Cls C) (S : Snd C n r) (hA : AOk (n + 1) A) {f : Expr} {args : List Expr} {kws : List Keyword} {pos : Pos} {v : AV} (h : evCall C.S r E f args kws pos s = some (v, s'))
    (O : Ok C s ρ st) (V : EnvR C ρ E env) (Ex) : wpAny (M C) A (eval (.Call f args kws pos) env) (PV C ρ s' v) Ex st := by
  unfold evCall at h
  cases f
  case Attribute o x apos =>
    dsimp only at h
    split at h
    · rename_i hc
      exact methX_ok G G2 S hA hc h O V Ex
    · cases h
  case Name x p =>
    dsimp only at h
    obtain ⟨g, hg, h⟩ := andThen_some h
    obtain ⟨p, s₁, h1, h⟩ := on_some h
    refine wpAny_Call_Name_kw (seqT (load_ok G O V hg _ Ex) fun w ρ₁ st₁ q₁ O₁ rg => ?_)
    exact wpAny_mono (callV_ok G G2 S hA h1 h O₁ (V.mono q₁) rg Ex) (fun _ _ p => p.up q₁) fun _ _ x => x
  all_goals cases h
end
end Mine

namespace Mine
section
open PySem PySem.W PyProof.Rows PySem.Calls PySem.Spec
set_option maxRecDepth 100000
variable {C : Cx} {n : Nat} {r : Ev} {A : Around} {E : AEnv} {env : Env} {s s' : VS} {ρ : List Addr} {st : Shared}

theorem Rel.fs {h : Heap} (R : Rel C s ρ h) {l : List (Nat × List (Str × AV))} (hl : ∀ p ∈ l, p ∈ s.fs) (hn : (l.map (·.1)).Nodup) : Rel C ⟨s.σ, s.nx, l⟩ ρ h := by
  have live : ∀ {i}, Live (⟨s.σ, s.nx, l⟩ : VS) i → Live s i := by
    intro i x
    rcases x with x | x
    · exact .inl x
    · obtain ⟨p, hp, rfl⟩ := List.mem_map.mp x
      exact .inr (List.mem_map_of_mem (hl p hp))
  exact ⟨R.len, R.keep, R.obj, fun p hp => R.frm p (hl p hp), fun i j a li lj => R.inj i j a (live li) (live lj), fun p hp => R.frn p (hl p hp), hn⟩
/-- a frame that is no more -/
theorem Rel.gone {h : Heap} (R : Rel C s ρ h) {l : List (Nat × List (Str × AV))} (hl : ∀ p ∈ l, p ∈ s.fs) {p : Nat × List (Str × AV)} (hp : p ∈ s.fs) (hn : ∀ q ∈ l, q.1 ≠ p.1) :
    ∃ a mm, ρ[p.1]? = some a ∧ h.Ns a mm ∧ Un C ⟨s.σ, s.nx, l⟩ ρ a := by
  obtain ⟨a, mm, q, g, _, n0⟩ := R.frm p hp
  refine ⟨a, mm, q, g, n0, fun j lj e => ?_⟩
  have lj' : Live s j := by
    rcases lj with x | x
    · exact .inl x
    · obtain ⟨p, hp, rfl⟩ := List.mem_map.mp x
      exact .inr (List.mem_map_of_mem (hl p hp))
  have := R.inj j p.1 a lj' (.inr (List.mem_map_of_mem hp)) e q
  subst this
  rcases lj with ⟨o, x⟩ | x
  · have x' : s.get p.1 = some o := x
    rw [R.frn p hp] at x'; cases x'
  · obtain ⟨p', hp', e'⟩ := List.mem_map.mp x
    exact hn p' hp' e'
theorem cellOf_eq {name : Str} {a : Addr} (h : env.cells.lookup name = some a) : cellOf env name = pure a := by unfold cellOf; rw [h]
/-- the free names' cells -/
theorem clos_ok (V : EnvR C ρ E env) {scope : Scope} {l : List (Str × Nat)} (h : closA E scope.names = some l) : ∃ cl, closureFor scope env = pure cl ∧ CellR ρ l cl := by
  have key : ∀ (names : List (Str × NameKind)) (l : List (Str × Nat)) (f : Str × NameKind → List (Str × Addr) → Sem (ForInStep (List (Str × Addr)))),
      (∀ name kind cs, f (name, kind) cs = if (kind == .free) = true then (do let c ← cellOf env name; pure (.yield ((name, c) :: cs))) else pure (.yield cs)) → closA E names = some l → ∀ acc : List (Str × Addr),
      ∃ cl, forIn names acc f = pure cl ∧ (∀ p ∈ cl, p ∈ acc ∨ env.cells.lookup p.1 = some p.2) ∧ (∀ p ∈ acc, p ∈ cl) ∧ (∀ p ∈ l, (∃ a, (p.1, a) ∈ cl) ∧ lookS p.1 E.cells = some p.2) := by
    intro names
    induction names with
    | nil => intro l f hf h acc; cases h; exact ⟨acc, by rw [List.forIn_nil], fun p hp => .inl hp, fun p hp => hp, fun p hp => by cases hp⟩
    | cons p names ih =>
      intro l f hf h acc
      obtain ⟨x, k⟩ := p
      rw [List.forIn_cons, hf]
      by_cases hk : k = .free
      · subst hk
        obtain ⟨c, hc, h⟩ := andThen_some h
        obtain ⟨l', hl', h⟩ := andThen_some h
        cases h
        obtain ⟨a, ha, ra⟩ := V.cells x c hc
        obtain ⟨cl, e, h1, h2, h3⟩ := ih l' f hf hl' ((x, a) :: acc)
        refine ⟨cl, ?_, fun p hp => ?_, fun p hp => h2 p (.tail _ hp), fun p hp => ?_⟩
        · rw [if_pos (by decide), cellOf_eq ha, pure_bind, pure_bind]
          exact e
        · rcases h1 p hp with h | h
          · cases h with
            | head => exact .inr ha
            | tail _ h => exact .inl h
          · exact .inr h
        · cases hp with
          | head => exact ⟨⟨a, h2 _ (.head _)⟩, hc⟩
          | tail _ hp => exact h3 p hp
      · have hk' : (k == NameKind.free) = false := by simpa using hk
        have h' : closA E names = some l := by cases k <;> first | exact h | exact absurd rfl hk
        obtain ⟨cl, e, h1, h2, h3⟩ := ih l f hf h' acc
        refine ⟨cl, ?_, h1, h2, h3⟩
        rw [hk', if_neg (by decide), pure_bind]
        exact e
  have e0 : closureFor scope env = (forIn scope.names [] (fun (x : Str × NameKind) (cs : List (Str × Addr)) => (if (x.2 == .free) = true then (do let c ← cellOf env x.1; pure (.yield ((x.1, c) :: cs))) else pure (.yield cs) : Sem (ForInStep (List (Str × Addr))))) >>= fun cs => pure cs) := rfl
  obtain ⟨cl, e, h1, h2, h3⟩ := key scope.names l (fun (x : Str × NameKind) (cs : List (Str × Addr)) => (if (x.2 == .free) = true then (do let c ← cellOf env x.1; pure (.yield ((x.1, c) :: cs))) else pure (.yield cs) : Sem (ForInStep (List (Str × Addr))))) (fun name kind cs => rfl) h []
  refine ⟨cl, ?_, fun x c hx => ?_⟩
  · rw [e0, e, pure_bind]
  · have hm : (x, c) ∈ l := lookS_mem hx
    obtain ⟨⟨a, ha⟩, hc⟩ := h3 _ hm
    obtain ⟨a', ha', ra⟩ := V.cells x c hc
    cases hcl : cl.lookup x with
    | none => 
      rw [List.lookup_eq_none_iff] at hcl
      have := hcl _ ha
      simp at this
    | some b =>
      rcases h1 _ (mem_of_lookup hcl) with h | h
      · cases h
      · rw [ha'] at h; cases h
        exact ⟨b, rfl, ra⟩
end
end Mine

namespace Mine
section
open PySem PySem.W PyProof.Rows PySem.Calls PySem.Spec
set_option maxRecDepth 100000
variable {C : Cx} {n : Nat} {r : Ev} {A : Around} {E : AEnv} {env : Env} {s s' : VS} {ρ : List Addr} {st : Shared}

theorem folded_ok {e : Expr} (h : noSet e = true) (env : Env) (x : Value) : foldedSetIterable e env x = pure x := by
  cases e <;> first | rfl | (cases h)
theorem noAsync_ok {g : Comprehension} (h : noAsync g = true) : g.is_async = 0 := of_decide_eq_true h
theorem okNames_ok {l : List (Str × NameKind)} (h : okNames l = true) : ∀ x ∈ l, x.2 = .local → l.lookup x.1 = some .local := by
  intro x hx hl
  have := List.all_eq_true.mp h x hx
  rw [hl] at this
  dsimp only at this
  rw [← lookS_eq]
  split at this
  · assumption
  · cases this
/-- the start of a comprehension's loop -/
theorem compStart_ok {elt : Expr} {gs : List Comprehension} {sc : Scope} {p : Pos} {d : Nat} {g : Comprehension} {it acc : Value} {R : Result → Shared → Prop} (hg : gs[d]? = some g) (ha : noAsync g = true)
    (h0 : codeAny (M C) A (.compLoop (.ListComp elt gs sc p) d it acc env) R st) (hit : ∀ (A' : Around) (Q : Value → Shared → Prop) (Ex : Value → Shared → Prop), Q it st → wpAny (M C) A' (pyIter it) Q Ex st) :
    codeAny (M C) A (.compStart (.ListComp elt gs sc p) d it acc env) R st := by
  refine codeAny_of_tree ?_
  show wpAny _ _ ((compStart (.ListComp elt gs sc p) d it acc env).onRaise (fun x => do noteFrame x env; standAt theWindowsPlace)) _ _ _
  refine wpAny_notedAt ?_
  unfold compStart
  have e0 : (((clausesOf (.ListComp elt gs sc p))[d]?).elim false (·.is_async != 0)) = false := by
    show ((gs[d]?).elim false (·.is_async != 0)) = false
    rw [hg]
    show (g.is_async != 0) = false
    rw [noAsync_ok ha]; rfl
  have e1 : (clausesOf (.ListComp elt gs sc p))[d]? = some g := hg
  rw [e1] at e0 ⊢
  rw [e0]
  simp only [Bool.false_eq_true, if_false]
  show wpAny _ _ (ask >>= _) _ _ _
  refine wpAny_bind (wpAny_askSetting (wpAny_ite ?_))
  split
  · first
      | exact wpAny_bind (wpAny_pure (wpAny_pure (And.intro rfl h0)))
      | exact wpAny_pure (And.intro rfl h0)
  · refine wpAny_bind (wpAny_rule ?_)
    show wpAny _ _ (standAt g.iter.pos >>= _) _ _ _
    refine wpAny_bind (wpAny_standAt (wpAny_bind (hit _ _ _ ?_)))
    exact wpAny_pure (And.intro rfl h0)
theorem newList_ok (O : Ok C s ρ st) {Q : Value → Shared → Prop} (Ex) (h : Q (.ref st.heap.objs.size) { st with heap := st.heap.push { cls := .type "list", data := .seq #[] } }) : wpAny (M C) A (newList []) Q Ex st :=
  wpAny_newObj_type h
inductive IsIt : AO → Prop where
  | lit (l i) : IsIt (.lit l i)
  | tit (l i) : IsIt (.tit l i)
  | rit (a n) : IsIt (.rit a n)
theorem iterC_it {s s' : VS} {x it : AV} (h : iterC s x = some (it, s')) : ∃ i o, it = .ref i ∧ s'.get i = some o ∧ IsIt o := by
  obtain ⟨h, n⟩ := iterC_some h
  unfold iterA at h
  cases x with
  | ref j =>
    dsimp only at h
    unfold iterO at h
    cases e : s.get j with
    | none => rw [e] at h; cases h
    | some o =>
      rw [e] at h
      cases o with
      | list xs => cases h; exact ⟨_, _, rfl, by rw [VS.get_new, if_pos rfl], .lit _ _⟩
      | tuple xs => cases h; exact ⟨_, _, rfl, by rw [VS.get_new, if_pos rfl], .tit _ _⟩
      | range n => cases h; exact ⟨_, _, rfl, by rw [VS.get_new, if_pos rfl], .rit _ _⟩
      | eitems d => exact absurd e (n j d rfl)
      | _ => cases h
  | _ => cases h
theorem it_again {s : VS} {i : Nat} {o : AO} {v : Value} (e : s.get i = some o) (k : IsIt o) (O : Ok C s ρ st) (rv : VRel C ρ (.ref i) v) {Q : Value → Shared → Prop} (hQ : Q v st) (Ex) : wpAny (M C) A (pyIter v) Q Ex st := by
  cases k with
  | lit l j =>
    obtain ⟨a, ob, rfl, q, g, c, b, qb, hd⟩ := O.obj (o := .lit l j) e rv
    exact wpAny_pyIter_listiter ⟨ob, g, c, hd⟩ hQ
  | tit l j =>
    obtain ⟨a, ob, rfl, q, g, c, b, qb, hd⟩ := O.obj (o := .tit l j) e rv
    exact wpAny_pyIter_tupleiter ⟨ob, g, c, hd⟩ hQ
  | rit x n =>
    obtain ⟨a, ob, rfl, q, g, rfl⟩ := O.obj (o := .rit x n) e rv
    exact wpAny_pyIter_rangeiter g hQ
theorem get_cellsA : ∀ (names : List (Str × NameKind)) (s : VS) (acc : List (Str × Nat)) (i : Nat), i < s.nx → (cellsA names s acc).2.get i = s.get i := by
  intro names
  induction names with
  | nil => intro s acc i h; rfl
  | cons p names ih =>
    intro s acc i h
    obtain ⟨x, k⟩ := p
    by_cases hk : k = .cell
    · subst hk
      have e : cellsA ((x, .cell) :: names) s acc = cellsA names (s.new (.cell none)) ((x, s.nx) :: acc) := rfl
      rw [e, ih _ _ _ (Nat.lt_succ_of_lt h), VS.get_new, if_neg (Nat.ne_of_lt h)]
    · have e : cellsA ((x, k) :: names) s acc = cellsA names s acc := by cases k <;> first | rfl | exact absurd rfl hk
      rw [e, ih _ _ _ h]
/-- a comprehension up to its end -/
theorem compK_ok (S : Snd C n r) (hA : AOk n A) {elt : Expr} {gs : List Comprehension} {scope : Scope} {p pos : Pos} {v : AV} {fid : Nat} {use : Option (Value → Sem Unit)} {Q : Value → Shared → Prop} {Ex : Value → Shared → Prop}
    (h : evCompK r E (.ListComp elt gs scope p) gs scope s = some ((v, fid), s')) (O : Ok C s ρ st) (V : EnvR C ρ E env)
    (hp : ∀ ρ' st' acc a, ρ <+: ρ' → Ok C s' ρ' st' → VRel C ρ' v acc → ρ'[fid]? = some a → (∃ m, nsAt s' fid = some m) → compPost (M C) A Ex use Q acc a (.ok .next) st') :
    wpAny (M C) A (comprehension (.ListComp elt gs scope p) scope env pos (newList []) (firstAsync gs) (firstIter gs env) use) Q Ex st := by
  unfold evCompK at h
  cases gs with
  | nil => cases h
  | cons g gs' =>
    dsimp only at h
    split at h
    · cases h
    · rename_i hb
      rw [Bool.and_eq_true] at hb
      split at h
      · cases h
      · rename_i hn
        split at h
        · rename_i hk
          obtain ⟨x, s₁, h1, h⟩ := on_some h
          obtain ⟨it, s₂, h2, h⟩ := on_some h
          obtain ⟨cl, hcl, h⟩ := andThen_some h
          replace h : (andThen (r.cl ⟨relabelA scope E.scope, s₂.nx + 1, (cellsA scope.names (s₂.new (.list [])).push cl).1⟩ (.ListComp elt (g :: gs') scope p) (g :: gs') it s₂.nx (cellsA scope.names (s₂.new (.list [])).push cl).2) fun s' => andThen (nsAt s' (s₂.nx + 1)) fun _ => some ((.ref s₂.nx, s₂.nx + 1), s')) = some ((v, fid), s') := h
          obtain ⟨s₃, h3, h⟩ := andThen_some h
          obtain ⟨m, hm, h⟩ := andThen_some h
          cases h
          have h2' := (iterC_some h2).1
          obtain ⟨closed, hclos, R⟩ := clos_ok V hcl
          have ea : firstAsync (g :: gs') = false := by
            obtain ⟨t, i, f, a⟩ := g
            have := noAsync_ok hb.2
            dsimp only at this
            subst this
            rfl
          have ei : firstIter (g :: gs') env = eval g.iter env := by obtain ⟨t, i, f, a⟩ := g; rfl
          rw [ea, ei]
          refine wpAny_comprehension_free (g := g) (gs := gs') rfl (folded_ok hb.1 env) hclos hk (okNames_ok hn) ?_
          refine seqT (S.ev h1 hA O V Ex) fun vx ρ₁ st₁ q₁ O₁ rx => ?_
          refine seqT (iter_ok h2' O₁ rx Ex) fun vi ρ₂ st₂ q₂ O₂ ri => ?_
          refine newList_ok O₂ Ex ?_
          have pre : ρ₂ <+: ρ₂ ++ [st₂.heap.objs.size] := List.prefix_append ..
          have O₃ : Ok C (s₂.new (.list [])) (ρ₂ ++ [st₂.heap.objs.size]) { st₂ with heap := st₂.heap.push { cls := .type "list", data := .seq #[] } } := O₂.push fun a => ⟨[], 0, rfl, .nil⟩
          have here : (ρ₂ ++ [st₂.heap.objs.size])[s₂.nx]? = some st₂.heap.objs.size := by rw [← O₂.1.len]; simp
          refine seqT (compEnv_ok hk O₃ ((V.mono (q₁.trans q₂)).mono pre) ((R.mono (q₁.trans q₂)).mono pre) Ex) fun cenv ρ₄ st₄ q₄ O₄ ⟨V₄, ql⟩ => ?_
          have ri4 : VRel C ρ₄ it vi := (ri.mono pre).mono q₄
          have ra4 : VRel C ρ₄ (.ref s₂.nx) (.ref st₂.heap.objs.size) := ⟨_, pre_get q₄ here, rfl⟩
          refine compStart_ok (g := g) rfl hb.2 ?_ ?_
          · refine S.cl (d := 0) h3 hA O₄ V₄ ri4 ra4 rfl ⟨_, _, _, _, rfl⟩ _ fun st' ⟨ρ₅, q₅, O₅, _⟩ => ?_
            exact hp ρ₅ st' _ _ (((q₁.trans q₂).trans (pre.trans q₄)).trans q₅) O₅ (ra4.mono q₅) (pre_get q₅ ql) ⟨m, hm⟩
          · intro A' Q' Ex' hq
            obtain ⟨i, o, ei, go, ko⟩ := iterC_it h2
            subst ei
            have lt : i < s₂.nx := O₂.1.lt go
            refine it_again (s := (cellsA scope.names (s₂.new (.list [])).push cl).2) ?_ ko O₄ ri4 hq Ex'
            rw [get_cellsA _ _ _ _ (Nat.lt_succ_of_lt (Nat.lt_succ_of_lt lt))]
            show (s₂.new (.list [])).get i = some o
            rw [VS.get_new, if_neg (Nat.ne_of_lt lt)]
            exact go
        · cases h
end
end Mine

namespace Mine
section
open PySem PySem.W PyProof.Rows PySem.Calls PySem.Spec
set_option maxRecDepth 100000
variable {C : Cx} {n : Nat} {r : Ev} {A : Around} {E : AEnv} {env : Env} {s s' : VS} {ρ : List Addr} {st : Shared}

theorem nsAt_head {i : Nat} {m : List (Str × AV)} (h : nsAt s i = some m) : ∃ l, s.fs = (i, m) :: l := by
  unfold nsAt at h
  split at h
  · rename_i p l e
    split at h
    · rename_i q
      have := Nat.eq_of_beq_eq_true q
      cases h
      subst this
      exact ⟨l, e⟩
    · cases h
  · cases h
/-- the comprehension's frame goes -/
theorem Ok.popped {i : Nat} {a : Addr} {m : List (Str × AV)} (O : Ok C s ρ st) (h : nsAt s i = some m) (q : ρ[i]? = some a) : ∃ mm, st.heap.Ns a mm ∧ Un C s.pop ρ a := by
  obtain ⟨l, e⟩ := nsAt_head h
  have hd := O.1.frd
  rw [e, List.map_cons, List.nodup_cons] at hd
  have et : s.fs.tail = l := by rw [e]; rfl
  obtain ⟨a', mm, q', g, un⟩ := O.1.gone (l := s.fs.tail) (p := (i, m)) (fun p hp => List.mem_of_mem_tail hp) (by rw [e]; exact .head _) (fun p hp e' => by
    rw [et] at hp
    exact hd.1 (e' ▸ List.mem_map_of_mem hp))
  rw [q] at q'; cases q'
  exact ⟨mm, g, un⟩
theorem Ok.rawOne {a : Addr} {h' : Heap} (O : Ok C s ρ st) (un : Un C s ρ a) (hs : Heap.SameBut a st.heap h') : Ok C s ρ { st with heap := h' } :=
  O.heap (O.1.raw (fun w => w = a) (fun c o n e => hs.extBut c o n e) (fun w hw => hw ▸ un))
theorem compX_ok (S : Snd C n r) (hA : AOk n A) {elt : Expr} {gs : List Comprehension} {scope : Scope} {p : Pos} {v : AV} (h : evComp r E (.ListComp elt gs scope p) gs scope s = some (v, s')) (O : Ok C s ρ st) (V : EnvR C ρ E env) (Ex) :
    wpAny (M C) A (eval (.ListComp elt gs scope p) env) (PV C ρ s' v) Ex st := by
  obtain ⟨⟨u, fid⟩, s₁, h1, h⟩ := on_some h
  cases h
  rw [eval_ListComp]
  refine compK_ok S hA h1 O V fun ρ' st' acc a q O' rv qa ⟨m, hm⟩ => ?_
  obtain ⟨mm, g, un⟩ := O'.popped hm qa
  exact ⟨mm, g, fun h' hs => ⟨ρ', q, O'.pop.rawOne un hs, rv⟩⟩
/-- the list goes to its name while the comprehension's variables stand -/
theorem swapF_some {i : Nat} (h : swapF s i = some s') : ∃ p b l, s.fs = p :: b :: l ∧ p.1 = i ∧ s' = ⟨s.σ, s.nx, b :: p :: l⟩ := by
  unfold swapF at h
  split at h
  · rename_i a b l e
    split at h
    · rename_i q
      cases h
      exact ⟨a, b, l, e, Nat.eq_of_beq_eq_true q, rfl⟩
    · cases h
  · cases h
theorem dropF_some {i : Nat} (h : dropF s i = some s') : ∃ p b l, s.fs = b :: p :: l ∧ p.1 = i ∧ s' = ⟨s.σ, s.nx, b :: l⟩ := by
  unfold dropF at h
  split at h
  · rename_i b a l e
    split at h
    · rename_i q
      cases h
      exact ⟨a, b, l, e, Nat.eq_of_beq_eq_true q, rfl⟩
    · cases h
  · cases h
theorem Ok.swapF (O : Ok C s ρ st) {i : Nat} (h : swapF s i = some s') : Ok C s' ρ st := by
  obtain ⟨p, b, l, e, _, rfl⟩ := swapF_some h
  refine ⟨O.1.fs (fun q hq => ?_) ?_, O.2⟩
  · rw [e]
    rcases List.mem_cons.mp hq with rfl | hq
    · exact .tail _ (.head _)
    · rcases List.mem_cons.mp hq with rfl | hq
      · exact .head _
      · exact .tail _ (.tail _ hq)
  · have := O.1.frd
    rw [e] at this
    simp only [List.map_cons, List.nodup_cons, List.mem_cons, not_or] at this ⊢
    exact ⟨⟨Ne.symm this.1.1, this.2.1⟩, this.1.2, this.2.2⟩
theorem Ok.dropF (O : Ok C s ρ st) {i : Nat} {a : Addr} (h : dropF s i = some s') (q : ρ[i]? = some a) : Ok C s' ρ st ∧ ∃ mm, st.heap.Ns a mm ∧ Un C s' ρ a := by
  obtain ⟨p, b, l, e, rfl, rfl⟩ := dropF_some h
  have nd := O.1.frd
  rw [e] at nd
  simp only [List.map_cons, List.nodup_cons, List.mem_cons, not_or] at nd
  have sub : ∀ x ∈ b :: l, x ∈ s.fs := by
    intro x hx
    rw [e]
    rcases List.mem_cons.mp hx with rfl | hx
    · exact .head _
    · exact .tail _ (.tail _ hx)
  refine ⟨⟨O.1.fs sub ?_, O.2⟩, ?_⟩
  · simp only [List.map_cons, List.nodup_cons]
    exact ⟨nd.1.2, nd.2.2⟩
  · obtain ⟨a', mm, q', g, un⟩ := O.1.gone sub (p := p) (by rw [e]; exact .tail _ (.head _)) (fun x hx e' => by
      rcases List.mem_cons.mp hx with rfl | hx
      · exact nd.1.1 e'
      · exact nd.2.1 (e' ▸ List.mem_map_of_mem hx))
    rw [q] at q'; cases q'
    exact ⟨mm, g, un⟩
end
end Mine

namespace Mine
section
open PySem PySem.W PyProof.Rows PySem.Calls PySem.Spec
set_option maxRecDepth 100000
variable {C : Cx} {n : Nat} {r : Ev} {A : Around} {E : AEnv} {env : Env} {s s' : VS} {ρ : List Addr} {st : Shared}

theorem assignEach_cons {t : Expr} {ts : List Expr} (h : noStar t = true) : assignEach (t :: ts) env = (false, assign t env) :: assignEach ts env := by
  cases t <;> first | rfl | (cases h)
theorem asgsR_star {ts : List Expr} : ∀ {vs : List AV} {s s' : VS}, asgsR r E ts vs s = some s' → (assignEach ts env).findIdx? (·.1) = none ∧ (assignEach ts env).length = ts.length ∧ vs.length = ts.length := by
  induction ts with
  | nil =>
    intro vs s s' h
    cases vs with
    | nil => exact ⟨rfl, rfl, rfl⟩
    | cons v vs => cases h
  | cons t ts ih =>
    intro vs s s' h
    unfold asgsR at h
    split at h
    · rename_i hn
      cases vs with
      | nil => cases h
      | cons v vs =>
        obtain ⟨s₁, h1, h⟩ := andThen_some h
        obtain ⟨a, b, c⟩ := ih h
        rw [assignEach_cons hn]
        refine ⟨?_, by rw [List.length_cons, List.length_cons, b], by rw [List.length_cons, List.length_cons, c]⟩
        rw [List.findIdx?_cons, a]
        rfl
    · cases h
theorem asgs_ok (S : Snd C n r) (hA : AOk n A) (Ex) {ts : List Expr} : ∀ {vs : List AV} {ws : List Value} {s s' : VS} {ρ : List Addr} {st : Shared}, asgsR r E ts vs s = some s' → Ok C s ρ st → EnvR C ρ E env → AllV C ρ vs ws →
    wpAny (M C) A (assignInOrder ((assignEach ts env).map (·.2)) ws) (Post C ρ s' fun _ _ => True) Ex st := by
  induction ts with
  | nil =>
    intro vs ws s s' ρ st h O V al
    cases vs with
    | nil => cases h; cases al; exact wpAny_pure (O.post trivial)
    | cons v vs => cases h
  | cons t ts ih =>
    intro vs ws s s' ρ st h O V al
    unfold asgsR at h
    split at h
    · rename_i hn
      cases al with
      | nil => cases h
      | cons a al =>
        obtain ⟨s₁, h1, h⟩ := andThen_some h
        rw [assignEach_cons hn]
        refine wpAny_bind (wpAny_holding (seqT (S.asg h1 hA O V a Ex) fun _ ρ₁ st₁ q₁ O₁ _ => ?_))
        exact wpAny_mono (ih h O₁ (V.mono q₁) (al.mono q₁)) (fun _ _ p => p.up q₁) fun _ _ x => x
    · cases h
/-- a tuple taken apart -/
theorem items_ok {xs : List AV} {i : Nat} {w : Value} {k : Nat} (hA : A.handled = none) (e : s.get i = some (.tuple xs)) (O : Ok C s ρ st) (rv : VRel C ρ (.ref i) w) (hk : k = xs.length) (Ex) :
    wpAny (M C) A (unpackItems w k none) (Post C ρ s fun ρ' ws => AllV C ρ' xs ws) Ex st := by
  obtain ⟨a, vs, m, rfl, q, g, al⟩ := O.tuple e rv
  have hs : k = vs.toArray.size := by rw [List.size_toArray, al.length, hk]
  subst hs
  refine wpAny_unpackItems_tuple hA (isTup_of g) fun h' he => ?_
  exact (O.heap (O.1.keeps fun b o e => he b o (Nat.ne_of_lt (Heap.lt_size e)) e)).post al
theorem asg_ok (G2 : Cls C) (S : Snd C n r) (hA : AOk n A) {t : Expr} {v : AV} {w : Value} (h : mkAsg r E t v s = some s') (O : Ok C s ρ st) (V : EnvR C ρ E env) (rv : VRel C ρ v w) (Ex) :
    wpAny (M C) A (assign t env w) (Post C ρ s' fun _ _ => True) Ex st := by
  cases t
  case Name x p => exact assign_Name (store_ok O V h rv Ex)
  case Attribute o x p => exact asgAttr_ok G2 S hA h O V rv Ex
  case Tuple ts k p =>
    obtain ⟨vs, hv, h2⟩ := andThen_some h
    clear h
    obtain ⟨i, ei, e⟩ := tupAt_some hv
    subst ei
    have h := h2
    obtain ⟨a, b, c⟩ := asgsR_star (env := env) h
    show wpAny _ _ (do standAt p; unpack w (assignEach ts env)) _ _ _
    refine wpAny_bind (wpAny_standAt ?_)
    unfold unpack
    rw [a, b]
    refine wpAny_bind (wpAny_holding (seqT (items_ok hA.h e O rv c.symm Ex) fun ws ρ₁ st₁ q₁ O₁ al => ?_))
    exact wpAny_mono (asgs_ok S hA Ex h O₁ (V.mono q₁) al) (fun _ _ p => p.up q₁) fun _ _ x => x
  all_goals cases h
end
end Mine

namespace Mine
section
open PySem PySem.W PyProof.Rows PySem.Calls PySem.Spec
set_option maxRecDepth 100000
variable {C : Cx} {n : Nat} {r : Ev} {A : Around} {E : AEnv} {env : Env} {s s' : VS} {ρ : List Addr} {st : Shared}

theorem aug_okS (S : Snd C n r) (hA : AOk n A) {t e : Expr} {op : Operator} {f : AF} {pos} (h : exAug r E t op e s = some (f, s')) (O : Ok C s ρ st) (V : EnvR C ρ E env) (Ex) :
    wpAny (M C) A (exec (.AugAssign t op e pos) env) (Post C ρ s' fun ρ' g => FlowR C ρ' f g) Ex st := by
  cases t
  case Name x p =>
    obtain ⟨a, ha, h⟩ := andThen_some h
    obtain ⟨b, s₁, h1, h⟩ := on_some h
    obtain ⟨v, hv, h⟩ := andThen_some h
    obtain ⟨s₂, h2, h⟩ := andThen_some h
    cases h
    refine wpAny_AugAssign_Name (seqT (loadL_ok O V ha Ex) fun wa ρ₁ st₁ q₁ O₁ ra => seqT (S.ev h1 hA O₁ (V.mono q₁) Ex) fun wb ρ₂ st₂ q₂ O₂ rb => ?_)
    refine seqT (aug_ok O₂ hv (ra.mono q₂) rb Ex) fun wv ρ₃ st₃ q₃ O₃ rv => ?_
    refine seqT (store_ok O₃ (((V.mono q₁).mono q₂).mono q₃) h2 rv Ex) fun _ ρ₄ st₄ q₄ O₄ _ => ⟨ρ₄, ((q₁.trans q₂).trans q₃).trans q₄, O₄, rfl⟩
  all_goals cases h
theorem ret_okS (S : Snd C n r) (hA : AOk n A) {e : Option Expr} {f : AF} {pos} (h : exRet r E e s = some (f, s')) (O : Ok C s ρ st) (V : EnvR C ρ E env) (Ex) :
    wpAny (M C) A (exec (.Return e pos) env) (Post C ρ s' fun ρ' g => FlowR C ρ' f g) Ex st := by
  cases e with
  | none => cases h
  | some e =>
    replace h : (on (r.ev E e s) fun v s => some (AF.ret v, s)) = some (f, s') := h
    obtain ⟨v, s₁, h1, h⟩ := on_some h
    cases h
    exact wpAny_Return_some (seqT (S.ev h1 hA O V Ex) fun w ρ₁ st₁ q₁ O₁ rv => ⟨ρ₁, q₁, O₁, w, rfl, rv⟩)
theorem if_okS (S : Snd C n r) (hA : AOk n A) {t : Expr} {b o : List Stmt} {f : AF} {pos} (h : exIf r E t b o s = some (f, s')) (O : Ok C s ρ st) (V : EnvR C ρ E env) (Ex) :
    wpAny (M C) A (exec (.If t b o pos) env) (Post C ρ s' fun ρ' g => FlowR C ρ' f g) Ex st := by
  obtain ⟨c, s₁, h1, h⟩ := on_some h
  refine wpAny_If (seqT (S.tst h1 hA O V Ex) fun w ρ₁ st₁ q₁ O₁ rc => ?_)
  subst rc
  cases w with
  | true => exact wpAny_mono (exs_ok S hA Ex h O₁ (V.mono q₁)) (fun _ _ p => p.up q₁) fun _ _ x => x
  | false => exact wpAny_mono (exs_ok S hA Ex h O₁ (V.mono q₁)) (fun _ _ p => p.up q₁) fun _ _ x => x
theorem interactive_no (V : EnvR C ρ E env) : interactive env = false := by
  unfold interactive
  rw [V.scope, V.kind]
  rfl
theorem swaps_no {e : Expr} (h : noComp e = true) (t : Option Expr) (l : Nat) : swapsWith e t l env = pure false := by
  cases e <;> first | rfl | (cases h)
theorem expr_okS (S : Snd C n r) (hA : AOk n A) {e : Expr} {f : AF} {pos} (h : (match noComp e with
    | true => on (r.ev E e s) fun v s => match v with | .none => some (AF.next, s) | _ => none
    | false => none) = some (f, s')) (O : Ok C s ρ st) (V : EnvR C ρ E env) (Ex) :
    wpAny (M C) A (exec (.Expr e pos) env) (Post C ρ s' fun ρ' g => FlowR C ρ' f g) Ex st := by
  split at h
  · rename_i hn
    obtain ⟨v, s₁, h1, h⟩ := on_some h
    cases v with
    | none =>
      cases h
      refine wpAny_Expr (seqT (S.ev h1 hA O V Ex) fun w ρ₁ st₁ q₁ O₁ rv => ?_) (interactive_no V) (swaps_no hn _ _)
      cases rv
      exact ⟨ρ₁, q₁, O₁, rfl⟩
    | _ => cases h
  · cases h
theorem while_okS (S : Snd C n r) (hA : AOk n A) {t : Expr} {b : List Stmt} {f : AF} {pos} (h : r.wl E t b s = some (f, s')) (O : Ok C s ρ st) (V : EnvR C ρ E env) (Ex) :
    wpAny (M C) A (exec (.While t b [] pos) env) (Post C ρ s' fun ρ' g => FlowR C ρ' f g) Ex st :=
  wpAny_While (S.wl h hA O V _ fun f' st' p => p)
theorem for_okS (S : Snd C n r) (hA : AOk n A) {t it : Expr} {b : List Stmt} {f : AF} {pos} (h : exFor r E t it b [] s = some (f, s')) (O : Ok C s ρ st) (V : EnvR C ρ E env) (Ex) :
    wpAny (M C) A (exec (.For t it b [] pos) env) (Post C ρ s' fun ρ' g => FlowR C ρ' f g) Ex st := by
  unfold exFor at h
  dsimp only at h
  split at h
  · rename_i hs
    obtain ⟨x, s₁, h1, h⟩ := on_some h
    obtain ⟨i, s₂, h2, h⟩ := on_some h
    refine wpAny_For (seqT (S.ev h1 hA O V Ex) fun w ρ₁ st₁ q₁ O₁ rx => seqT (iter_ok h2 O₁ rx Ex) fun wi ρ₂ st₂ q₂ O₂ ri => ?_) (folded_ok hs env)
    exact S.fl h hA O₂ ((V.mono q₁).mono q₂) ri _ fun f' st' p => p.up (q₁.trans q₂)
  · cases h
/-! assignments -/
theorem exec_Assign1 (t e : Expr) (pos : Pos) : exec (.Assign [t] e pos) env = (do
    standAt pos
    if ← swapsWith e (some t) pos.line env then do
      evalThenUse e env fun v => assignAll v ((assignEach [t] env).map (·.2))
      pure .next
    else do
      let v ← eval e env
      assignStores env v (← swappedStores [t] e env) ((assignEach [t] env).map (·.2))) := rfl
theorem assignAll1 {t : Expr} (h : okTarget t = true) (v : Value) : assignAll v ((assignEach [t] env).map (·.2)) = assign t env v := by
  cases t <;> first | rfl | (cases h)
theorem plain_okS (S : Snd C n r) (hA : AOk n A) {t e : Expr} {f : AF} {pos} (ht : okTarget t = true) (h : exAsgP r E t e s = some (f, s')) (hs : swapsWith e (some t) pos.line env = pure false) (hw : swappedStores [t] e env = pure none)
    (O : Ok C s ρ st) (V : EnvR C ρ E env) (Ex) : wpAny (M C) A (exec (.Assign [t] e pos) env) (Post C ρ s' fun ρ' g => FlowR C ρ' f g) Ex st := by
  obtain ⟨v, s₁, h1, h⟩ := on_some h
  obtain ⟨s₂, h2, h⟩ := andThen_some h
  cases h
  rw [exec_Assign1, hs]
  refine wpAny_bind (wpAny_standAt (wpAny_bind (wpAny_pure ?_)))
  rw [if_neg (by decide)]
  refine wpAny_bind (seqT (S.ev h1 hA O V Ex) fun w ρ₁ st₁ q₁ O₁ rv => ?_)
  rw [hw]
  refine wpAny_bind (wpAny_pure ?_)
  show wpAny _ _ (do assignAll w ((assignEach [t] env).map (·.2)); pure Flow.next) _ _ _
  rw [assignAll1 ht]
  exact wpAny_bind (seqT (S.asg h2 hA O₁ (V.mono q₁) rv Ex) fun _ ρ₂ st₂ q₂ O₂ _ => wpAny_pure ⟨ρ₂, q₁.trans q₂, O₂, rfl⟩)
/-- stores under names, in order -/
theorem storesL_ok (Ex) : ∀ {ns : List Str} {vs : List AV} {ws : List Value} {s s' : VS} {ρ : List Addr} {st : Shared}, storesL E ns vs s = some s' → Ok C s ρ st → EnvR C ρ E env → AllV C ρ vs ws →
    wpAny (M C) A (assignInOrder (ns.map fun n => bindName env n) ws) (Post C ρ s' fun _ _ => True) Ex st := by
  intro ns
  induction ns with
  | nil =>
    intro vs ws s s' ρ st h O V al
    cases vs with
    | nil => cases h; cases al; exact wpAny_pure (O.post trivial)
    | cons v vs => cases h
  | cons x ns ih =>
    intro vs ws s s' ρ st h O V al
    cases al with
    | nil => cases h
    | cons a al =>
      obtain ⟨s₁, h1, h⟩ := andThen_some h
      refine wpAny_bind (wpAny_holding (bindName_ (seqT (store_ok O V h1 a Ex) fun _ ρ₁ st₁ q₁ O₁ _ => ?_)))
      exact wpAny_mono (ih h O₁ (V.mono q₁) (al.mono q₁)) (fun _ _ p => p.up q₁) fun _ _ x => x
theorem AllV.reverse {ρ : List Addr} {xs : List AV} {vs : List Value} (r : AllV C ρ xs vs) : AllV C ρ xs.reverse vs.reverse := by
  induction r with
  | nil => exact .nil
  | cons a _ ih => rw [List.reverse_cons, List.reverse_cons]; exact ih.append (.cons a .nil)
theorem storesL_len : ∀ {ns : List Str} {vs : List AV} {s s' : VS}, storesL E ns vs s = some s' → ns.length = vs.length := by
  intro ns
  induction ns with
  | nil => intro vs s s' h; cases vs with | nil => rfl | cons v vs => cases h
  | cons x ns ih =>
    intro vs s s' h
    cases vs with
    | nil => cases h
    | cons v vs => obtain ⟨s₁, h1, h⟩ := andThen_some h; rw [List.length_cons, List.length_cons, ih h]
end
end Mine

namespace Mine
section
open PySem PySem.W PyProof.Rows PySem.Calls PySem.Spec
set_option maxRecDepth 100000
variable {C : Cx} {n : Nat} {r : Ev} {A : Around} {E : AEnv} {env : Env} {s s' : VS} {ρ : List Addr} {st : Shared}

theorem swap_ok (V : EnvR C ρ E env) {ts vs : List Expr} {b : Bool} (h : swapA E ts vs = some b) (k k' p p') : swappedStores [.Tuple ts k p] (.Tuple vs k' p') env = pure (if b = true then some (swapNames E ts) else none) := by
  have hk : (env.blockKind != .function) = false := by unfold Env.blockKind; rw [V.scope, V.kind]; rfl
  have en : (ts.filterMap fun
    | .Name id pos => if env.kindOf id == some .local && pos.line == (ts.head?.map (·.pos.line)).getD 0 then some id else none
    | _ => none) = swapNames E ts := by
    have ek : ∀ x, env.kindOf x = E.scope.names.lookup x := fun x => by rw [kindOf_eq V, lookS_eq]
    unfold swapNames
    simp only [ek]
    all_goals rfl
  unfold swapA at h
  unfold swappedStores
  dsimp only
  rw [hk, Bool.or_false]
  split at h
  · rename_i q
    cases h
    exact if_pos q
  · rename_i q
    refine (if_neg q).trans ?_
    split at h
    · rename_i q2
      cases h
      exact if_pos q2
    · rename_i q2
      refine (if_neg q2).trans ?_
      show (if ((ts.filterMap fun | .Name id pos => if env.kindOf id == some .local && pos.line == (ts.head?.map (·.pos.line)).getD 0 then some id else none | _ => none).length != ts.length || (ts.filterMap fun | .Name id pos => if env.kindOf id == some .local && pos.line == (ts.head?.map (·.pos.line)).getD 0 then some id else none | _ => none).eraseDups.length != (ts.filterMap fun | .Name id pos => if env.kindOf id == some .local && pos.line == (ts.head?.map (·.pos.line)).getD 0 then some id else none | _ => none).length) = true then pure none else if (vs.all (foldedForSure 8)) = true then pure none else if (vs.all (constantsAlone 8)) = true then unsupported "assign.tuple-of-constant-expressions:order-of-the-stores" else pure (some (ts.filterMap fun | .Name id pos => if env.kindOf id == some .local && pos.line == (ts.head?.map (·.pos.line)).getD 0 then some id else none | _ => none))) = _
      rw [en]
      split at h
      · rename_i q3
        cases h
        exact if_pos q3
      · rename_i q3
        refine (if_neg q3).trans ?_
        split at h
        · rename_i q4
          cases h
          exact if_pos q4
        · rename_i q4
          refine (if_neg q4).trans ?_
          split at h
          · cases h
          · rename_i q5
            cases h
            exact if_neg q5
end
end Mine

namespace Mine
section
open PySem PySem.W PyProof.Rows PySem.Calls PySem.Spec
set_option maxRecDepth 100000
variable {C : Cx} {n : Nat} {r : Ev} {A : Around} {E : AEnv} {env : Env} {s s' : VS} {ρ : List Addr} {st : Shared}

theorem swapped_okS (S : Snd C n r) (hA : AOk n A) {ts vs : List Expr} {f : AF} {k k' p p' pos} (hsw : swapA E ts vs = some true) (h : exAsgS r E ts (.Tuple vs k' p') s = some (f, s')) (O : Ok C s ρ st) (V : EnvR C ρ E env) (Ex) :
    wpAny (M C) A (exec (.Assign [.Tuple ts k p] (.Tuple vs k' p') pos) env) (Post C ρ s' fun ρ' g => FlowR C ρ' f g) Ex st := by
  obtain ⟨v, s₁, h1, h⟩ := on_some h
  obtain ⟨xs, hx, h⟩ := andThen_some h
  obtain ⟨s₂, h2, h⟩ := andThen_some h
  cases h
  obtain ⟨i, rfl, e⟩ := tupAt_some hx
  have hl := storesL_len h2
  rw [List.length_reverse, List.length_reverse] at hl
  refine Assign_Tuple_swapped (names := swapNames E ts) (seqT (S.ev h1 hA O V Ex) fun w ρ₁ st₁ q₁ O₁ rv => ?_) rfl (by rw [swap_ok V hsw]; rfl)
  refine seqT (items_ok hA.h e O₁ rv hl Ex) fun ws ρ₂ st₂ q₂ O₂ al => ?_
  exact seqT (storesL_ok Ex h2 O₂ ((V.mono q₁).mono q₂) al.reverse) fun _ ρ₃ st₃ q₃ O₃ _ => ⟨ρ₃, (q₁.trans q₂).trans q₃, O₃, rfl⟩
theorem usesA_ok (V : EnvR C ρ E env) {t elt : Expr} {gs sc p} (l : Nat) : swapsWith (.ListComp elt gs sc p) (some t) l env = pure (usesA E t (.ListComp elt gs sc p) sc) := by
  cases t
  case Name x q =>
    have hk : (env.blockKind == .function) = true := by unfold Env.blockKind; rw [V.scope, V.kind]; rfl
    have ek : env.kindOf x = E.scope.names.lookup x := by rw [kindOf_eq V, lookS_eq]
    show pure (env.blockKind == .function && env.kindOf x == some .local && q.line == p.line && !(sc.names.any fun (n, k) => n == x && (k == .local || k == .cell))) = _
    rw [hk, ek, Bool.true_and]
    rfl
  all_goals rfl
theorem use_ListComp (elt : Expr) (gs : List Comprehension) (sc : Scope) (p : Pos) (env : Env) (use : Value → Sem Unit) : evalThenUse (.ListComp elt gs sc p) env use =
    (comprehension (.ListComp elt gs sc p) sc env (firstIterPos gs p) (newList []) (firstAsync gs) (firstIter gs env) (some use) >>= fun _ => pure ()) := rfl
theorem swapNone {t elt : Expr} {gs sc p} : swappedStores [t] (.ListComp elt gs sc p) env = pure none := by
  cases t <;> rfl
theorem compAsg_okS (S : Snd C n r) (hA : AOk n A) {t elt : Expr} {gs : List Comprehension} {sc : Scope} {p : Pos} {f : AF} {pos} (ht : okTarget t = true) (h : exAsgC r E t (.ListComp elt gs sc p) gs sc s = some (f, s')) (O : Ok C s ρ st) (V : EnvR C ρ E env) (Ex) :
    wpAny (M C) A (exec (.Assign [t] (.ListComp elt gs sc p) pos) env) (Post C ρ s' fun ρ' g => FlowR C ρ' f g) Ex st := by
  rw [exec_Assign1, usesA_ok V]
  refine wpAny_bind (wpAny_standAt (wpAny_bind (wpAny_pure ?_)))
  unfold exAsgC at h
  cases hu : usesA E t (.ListComp elt gs sc p) sc with
  | false =>
    rw [hu] at h
    obtain ⟨v, s₁, h1, h⟩ := on_some h
    obtain ⟨s₂, h2, h⟩ := andThen_some h
    cases h
    rw [if_neg (by decide)]
    refine wpAny_bind (seqT (compX_ok S hA h1 O V Ex) fun w ρ₁ st₁ q₁ O₁ rv => ?_)
    rw [swapNone]
    refine wpAny_bind (wpAny_pure ?_)
    show wpAny _ _ (do assignAll w ((assignEach [t] env).map (·.2)); pure Flow.next) _ _ _
    rw [assignAll1 ht]
    exact wpAny_bind (seqT (S.asg h2 hA O₁ (V.mono q₁) rv Ex) fun _ ρ₂ st₂ q₂ O₂ _ => wpAny_pure ⟨ρ₂, q₁.trans q₂, O₂, rfl⟩)
  | true =>
    rw [hu] at h
    obtain ⟨⟨v, fid⟩, s₁, h1, h⟩ := on_some h
    obtain ⟨s₂, h2, h⟩ := andThen_some h
    obtain ⟨s₃, h3, h⟩ := andThen_some h
    obtain ⟨s₄, h4, h⟩ := andThen_some h
    cases h
    rw [if_pos (by decide)]
    rw [use_ListComp]
    refine wpAny_bind (wpAny_bind (compK_ok S hA h1 O V fun ρ' st' acc a q O' rv qa _ => ?_))
    show wpAny _ _ (assignAll acc ((assignEach [t] env).map (·.2))) _ _ _
    rw [assignAll1 ht]
    refine seqT (S.asg h3 hA (O'.swapF h2) (V.mono q) rv Ex) fun _ ρ₂ st₂ q₂ O₂ _ => ?_
    obtain ⟨O₃, mm, g, un⟩ := O₂.dropF h4 (pre_get q₂ qa)
    exact ⟨mm, g, fun h' hs => wpAny_pure (wpAny_pure ⟨ρ₂, q.trans q₂, O₃.rawOne un hs, rfl⟩)⟩
theorem swapNone2 {t e : Expr} (ht : okTarget t = true) (h : (∀ vs k p, e ≠ .Tuple vs k p) ∨ ∀ ts k p, t ≠ .Tuple ts k p) : swappedStores [t] e env = pure none := by
  cases t
  case Tuple ts k p =>
    cases e
    case Tuple vs k' p' => rcases h with h | h <;> exact absurd rfl (h _ _ _)
    all_goals rfl
  all_goals first | rfl | (cases ht)
theorem asg_okS (S : Snd C n r) (hA : AOk n A) {ts : List Expr} {e : Expr} {f : AF} {pos} (h : exAsg r E ts e s = some (f, s')) (O : Ok C s ρ st) (V : EnvR C ρ E env) (Ex) :
    wpAny (M C) A (exec (.Assign ts e pos) env) (Post C ρ s' fun ρ' g => FlowR C ρ' f g) Ex st := by
  unfold exAsg at h
  split at h
  · rename_i t
    split at h
    · rename_i ht
      split at h
      · exact compAsg_okS S hA ht h O V Ex
      · rename_i vs k' p'
        split at h
        · rename_i ts k p
          obtain ⟨b, hb, h⟩ := andThen_some h
          cases b with
          | true => exact swapped_okS S hA hb h O V Ex
          | false => exact plain_okS S hA ht h rfl (by rw [swap_ok V hb]; rfl) O V Ex
        · rename_i hn
          exact plain_okS S hA ht h (swaps_no rfl _ _) (swapNone2 ht (.inr fun ts k p e => hn _ _ _ e)) O V Ex
      · rename_i hl htp
        split at h
        · rename_i hn
          exact plain_okS S hA ht h (swaps_no hn _ _) (swapNone2 ht (.inl fun vs k p e => htp _ _ _ e)) O V Ex
        · cases h
    · cases h
  · cases h
theorem ex_ok (S : Snd C n r) (hA : AOk n A) {t : Stmt} {f : AF} (h : mkEx r E t s = some (f, s')) (O : Ok C s ρ st) (V : EnvR C ρ E env) (Ex) :
    wpAny (M C) A (exec t env) (Post C ρ s' fun ρ' g => FlowR C ρ' f g) Ex st := by
  cases t
  case Assign => exact asg_okS S hA h O V Ex
  case AugAssign => exact aug_okS S hA h O V Ex
  case Return => exact ret_okS S hA h O V Ex
  case Expr => exact expr_okS S hA h O V Ex
  case If => exact if_okS S hA h O V Ex
  case Break => cases h; exact wpAny_Break (O.post rfl)
  case For t it b o pos =>
    cases o with
    | nil => exact for_okS S hA h O V Ex
    | cons a l => cases h
  case While t b o pos =>
    cases o with
    | nil => exact while_okS S hA h O V Ex
    | cons a l => cases h
  all_goals cases h
end
end Mine

namespace Mine
section
open PySem PySem.W PyProof.Rows PySem.Calls PySem.Spec
set_option maxRecDepth 100000
variable {C : Cx} {n : Nat} {r : Ev} {A : Around} {E : AEnv} {env : Env} {s s' : VS} {ρ : List Addr} {st : Shared}

theorem ev_ok (G : Glob C) (G2 : Cls C) (B : InB C) (S : Snd C n r) (hA : AOk (n + 1) A) {e : Expr} {v : AV} (h : mkEv C.S r E e s = some (v, s')) (O : Ok C s ρ st) (V : EnvR C ρ E env) (Ex) :
    wpAny (M C) A (eval e env) (PV C ρ s' v) Ex st := by
  have hA' : AOk n A := hA.mono (Nat.le_succ n)
  cases e
  case Constant c k p =>
    obtain ⟨h1, e⟩ := give_some (x := evConst c) h
    clear h
    subst e
    exact const_ok h1 O Ex
  case Name x p =>
    obtain ⟨h1, e⟩ := give_some (x := loadA C.S E x s) h
    clear h
    subst e
    exact load_ok G O V h1 _ Ex
  case BinOp => exact binX_ok B S hA' h O V Ex
  case UnaryOp => exact unX_ok h O Ex
  case IfExp => exact ifX_ok S hA' h O V Ex
  case Compare => exact cmpX_ok B S hA' h O V Ex
  case List => exact listX_ok S hA' h O V Ex
  case Tuple => exact tupX_ok S hA' h O V Ex
  case Dict => exact dictX_ok S hA' h O V Ex
  case Subscript => exact subX_ok G S hA' h O V Ex
  case Attribute => exact attrX_ok G2 S hA' h O V Ex
  case Call => exact callX_ok G G2 S hA h O V Ex
  case ListComp => exact compX_ok S hA' h O V Ex
  all_goals cases h
/-- what a for takes off its iterator's own tuple: nothing -/
theorem owned_ok {i : Nat} {o : AO} {v w : Value} {t : Expr} {Q : Unit → Shared → Prop} (e : s.get i = some o) (k : IsIt o) (O : Ok C s ρ st) (rv : VRel C ρ (.ref i) v) (h : Q () st) (Ex) : wpAny (M C) A (letOwnedTupleGo t v w) Q Ex st := by
  have key : ∀ (a : Addr) (ob : Obj), v = .ref a → st.heap.get? a = some ob → (ob.cls = .type "list_iterator" ∨ ob.cls = .type "tuple_iterator" ∨ ob.cls = .type "range_iterator") → wpAny (M C) A (letOwnedTupleGo t v w) Q Ex st := by
    intro a ob e g c
    subst e
    have body : wpAny (M C) A (do
        let (.ref r, .ref a) := (Value.ref a, w) | return
        let o ← load r
        match o.cls, o.data with
        | .type n, .fields vs =>
          if ["enumerate", "zip", "dict_itemiterator", "dict_reverseitemiterator", "odict_iterator", "itertools.zip_longest", "itertools.pairwise"].contains n && vs[0]? == some (rawInt a) then
            rule "for.unpacks-the-owned-tuple"
            updateField r 0 .none
        | _, _ => pure ()) Q Ex st := by
      cases w with
      | ref b =>
        refine wpAny_bind (wpAny_load g ?_)
        obtain ⟨oc, od, oda, osl⟩ := ob
        dsimp only at c ⊢
        rcases c with rfl | rfl | rfl <;> cases oda <;> first
          | exact wpAny_pure h
          | (dsimp only; rw [if_neg (by simp)]; exact wpAny_pure h)
      | _ => exact wpAny_pure h
    cases t
    case Tuple => exact body
    case List => exact body
    all_goals exact wpAny_pure h
  cases k with
  | lit l j => obtain ⟨a, ob, rfl, q, g, c, _⟩ := O.obj (o := .lit l j) e rv; exact key a ob rfl g (.inl c)
  | tit l j => obtain ⟨a, ob, rfl, q, g, c, _⟩ := O.obj (o := .tit l j) e rv; exact key a ob rfl g (.inr (.inl c))
  | rit x m => obtain ⟨a, ob, rfl, q, g, rfl⟩ := O.obj (o := .rit x m) e rv; exact key a _ rfl g (.inr (.inr rfl))
theorem wl_ok (S : Snd C n r) (hA : AOk n A) {t : Expr} {b : List Stmt} {f : AF} (h : mkWl r E t b s = some (f, s')) (O : Ok C s ρ st) (V : EnvR C ρ E env)
    (R : Result → Shared → Prop) (hR : ∀ f' st', Post C ρ s' (fun ρ' g => FlowR C ρ' f g) f' st' → R (.ok f') st') : codeAny (M C) A (.whileLoop t b [] env) R st := by
  obtain ⟨c, s₁, h1, h⟩ := on_some h
  refine codeAny_of_tree ?_
  show wpAny _ A ((whileTurn t b [] env).onRaise (fun x => do noteFrame x env; theTreesLotGoes x)) _ _ _
  refine wpAny_noted ?_
  unfold whileTurn
  refine wpAny_bind (seqT (S.tst h1 hA O V _) fun w ρ₁ st₁ q₁ O₁ rc => ?_)
  subst rc
  cases w with
  | false =>
    cases h
    rw [if_neg (by decide)]
    exact wpAny_bind (wpAny_execs_nil (wpAny_pure (hR _ _ ⟨ρ₁, q₁, O₁, rfl⟩)))
  | true =>
    obtain ⟨g, s₂, h2, h⟩ := on_some h
    rw [if_pos rfl]
    refine wpAny_bind (seqT (exs_ok S hA _ h2 O₁ (V.mono q₁)) fun fl ρ₂ st₂ q₂ O₂ rf => ?_)
    have go : r.wl E t b s₂ = some (f, s') → wpAny (M C) A (again (.whileLoop t b [] env)) (fun fin s' => match fin with | .done f => R (.ok f) s' | .again c' => c'.quiet = true ∧ codeAny (M C) A c' R s') (notedBy (M C) A env fun e s' => R (.error e) s') st₂ := fun h3 =>
      wpAny_pure ⟨rfl, S.wl h3 hA O₂ ((V.mono q₁).mono q₂) R fun f' st' p => hR f' st' (p.up (q₁.trans q₂))⟩
    cases g with
    | next => cases rf; exact go h
    | cont => cases rf; exact go h
    | brk => cases rf; cases h; exact wpAny_pure (hR _ _ ⟨ρ₂, q₁.trans q₂, O₂, rfl⟩)
    | ret v => obtain ⟨u, rfl, ru⟩ := rf; cases h; exact wpAny_pure (hR _ _ ⟨ρ₂, q₁.trans q₂, O₂, u, rfl, ru⟩)
end
end Mine

namespace Mine
section
open PySem PySem.W PyProof.Rows PySem.Calls PySem.Spec
set_option maxRecDepth 100000
variable {C : Cx} {n : Nat} {r : Ev} {A : Around} {E : AEnv} {env : Env} {s s' : VS} {ρ : List Addr} {st : Shared}

theorem nextA_it {it v : AV} (h : nextA s it = some (some v, s')) : ∃ i o, it = .ref i ∧ s'.get i = some o ∧ IsIt o := by
  unfold nextA at h
  cases it with
  | ref i =>
    dsimp only at h
    unfold nextO at h
    cases e : s.get i with
    | none => rw [e] at h; cases h
    | some o =>
      rw [e] at h
      cases o with
      | lit l k =>
        obtain ⟨xs, hx, h⟩ := andThen_some h
        unfold stepA at h
        split at h
        · cases h; exact ⟨i, _, rfl, by rw [VS.get_put, if_pos rfl], .lit _ _⟩
        · cases h
      | tit l k =>
        obtain ⟨xs, hx, h⟩ := andThen_some h
        unfold stepA at h
        split at h
        · cases h; exact ⟨i, _, rfl, by rw [VS.get_put, if_pos rfl], .tit _ _⟩
        · cases h
      | rit y k =>
        cases k with
        | zero => cases h
        | succ k => cases h; exact ⟨i, _, rfl, by rw [VS.get_put, if_pos rfl], .rit _ _⟩
      | eiter d => obtain ⟨u, hu, h⟩ := andThen_some h; cases h
      | _ => cases h
  | _ => cases h
theorem block_ok {R : Result → Shared → Prop} (h : R (.ok .next) st) : codeAny (M C) A (.block [] env) R st := by
  refine codeAny_of_tree ?_
  show wpAny _ A (do return Fin.done (← (execs [] env).onRaise (fun x => do noteFrame x env; theTreesLotGoes x))) _ _ _
  refine wpAny_bind (wpAny_noted (wpAny_execs_nil ?_))
  exact wpAny_pure h
theorem fl_ok (S : Snd C n r) (hA : AOk n A) {t : Expr} {it : AV} {w : Value} {b : List Stmt} {f : AF} (h : mkFl r E t it b s = some (f, s')) (O : Ok C s ρ st) (V : EnvR C ρ E env) (rv : VRel C ρ it w)
    (R : Result → Shared → Prop) (hR : ∀ f' st', Post C ρ s' (fun ρ' g => FlowR C ρ' f g) f' st' → R (.ok f') st') : codeAny (M C) A (.forLoop t w b [] env) R st := by
  obtain ⟨x, s₁, h1, h⟩ := on_some h
  refine codeAny_of_tree ?_
  show wpAny _ A ((forTurn t w b [] env).onRaise (fun x => do noteFrame x env; theTreesLotGoes x)) _ _ _
  refine wpAny_noted ?_
  unfold forTurn
  refine wpAny_bind (wpAny_standAt (wpAny_bind (wpAny_onRaise (seqT (next_ok hA.h h1 O rv _) fun y ρ₁ st₁ q₁ O₁ ry => ?_))))
  cases x with
  | none =>
    cases ry
    cases h
    exact wpAny_pure ⟨rfl, block_ok (hR _ _ ⟨ρ₁, q₁, O₁, rfl⟩)⟩
  | some v =>
    obtain ⟨u, rfl, ru⟩ := ry
    obtain ⟨s₂, h2, h⟩ := andThen_some h
    obtain ⟨g, s₃, h3, h⟩ := on_some h
    obtain ⟨i, o, ei, go, ko⟩ := nextA_it h1
    subst ei
    refine wpAny_bind (owned_ok go ko O₁ (rv.mono q₁) ?_ _)
    refine wpAny_bind (seqT (S.asg h2 hA O₁ (V.mono q₁) ru _) fun _ ρ₂ st₂ q₂ O₂ _ => ?_)
    refine wpAny_bind (seqT (exs_ok S hA _ h3 O₂ ((V.mono q₁).mono q₂)) fun fl ρ₃ st₃ q₃ O₃ rf => ?_)
    have q := (q₁.trans q₂).trans q₃
    have go' : r.fl E t (.ref i) b s₃ = some (f, s') → wpAny (M C) A (again (.forLoop t w b [] env)) (fun fin s' => match fin with | .done f => R (.ok f) s' | .again c' => c'.quiet = true ∧ codeAny (M C) A c' R s') (notedBy (M C) A env fun e s' => R (.error e) s') st₃ := fun h4 =>
      wpAny_pure ⟨rfl, S.fl h4 hA O₃ (V.mono q) (rv.mono q) R fun f' st' p => hR f' st' (p.up q)⟩
    cases g with
    | next => cases rf; exact go' h
    | cont => cases rf; exact go' h
    | brk => cases rf; cases h; exact wpAny_pure (hR _ _ ⟨ρ₃, q, O₃, rfl⟩)
    | ret v => obtain ⟨u, rfl, ru⟩ := rf; cases h; exact wpAny_pure (hR _ _ ⟨ρ₃, q, O₃, u, rfl, ru⟩)
end
end Mine

namespace Mine
section
open PySem PySem.W PyProof.Rows PySem.Calls PySem.Spec
set_option maxRecDepth 100000
variable {C : Cx} {n : Nat} {r : Ev} {A : Around} {E : AEnv} {env : Env} {s s' : VS} {ρ : List Addr} {st : Shared}

/-- a comprehension's tests -/
theorem ifs_ok (S : Snd C n r) (hA : AOk n A) (Ex) : ∀ {cs : List Expr} {b : Bool} {s s' : VS} {ρ : List Addr} {st : Shared}, tstsR r E cs s = some (b, s') → Ok C s ρ st → EnvR C ρ E env →
    wpAny (M C) A (forIn cs true fun c r => if r = true then do let ok ← isTrue c env (eval c env); pure (ForInStep.yield ok) else pure (ForInStep.yield r)) (Post C ρ s' fun _ w => w = b) Ex st := by
  have no : ∀ (cs : List Expr) (Q : Bool → Shared → Prop) (st : Shared), Q false st → wpAny (M C) A (forIn cs false fun c r => if r = true then do let ok ← isTrue c env (eval c env); pure (ForInStep.yield ok) else pure (ForInStep.yield r)) Q Ex st := by
    intro cs
    induction cs with
    | nil => intro Q st h; rw [List.forIn_nil]; exact wpAny_pure h
    | cons c cs ih =>
      intro Q st h
      rw [List.forIn_cons, if_neg (by decide)]
      exact wpAny_bind (wpAny_pure (ih Q st h))
  intro cs
  induction cs with
  | nil => intro b s s' ρ st h O V; cases h; rw [List.forIn_nil]; exact wpAny_pure (O.post rfl)
  | cons c cs ih =>
    intro b s s' ρ st h O V
    obtain ⟨c', s₁, h1, h⟩ := on_some h
    rw [List.forIn_cons, if_pos rfl]
    refine wpAny_bind (wpAny_bind (seqT (S.tst h1 hA O V Ex) fun w ρ₁ st₁ q₁ O₁ rc => wpAny_pure ?_))
    subst rc
    cases w with
    | true => exact wpAny_mono (ih h O₁ (V.mono q₁)) (fun _ _ p => p.up q₁) fun _ _ x => x
    | false => cases h; exact no cs _ st₁ ⟨ρ₁, q₁, O₁, rfl⟩
theorem drop_get {α : Type} {l : List α} {d : Nat} {g : α} {gs : List α} (h : l.drop d = g :: gs) : l[d]? = some g ∧ l.drop (d + 1) = gs := by
  refine ⟨?_, ?_⟩
  · rw [← List.head?_drop, h]; rfl
  · rw [← List.drop_drop, h]; rfl
theorem cl_ok (S : Snd C n r) (hA : AOk n A) {e : Expr} {gs : List Comprehension} {d acc : Nat} {it : AV} {w u : Value} (h : mkCl r E e gs it acc s = some s') (O : Ok C s ρ st) (V : EnvR C ρ E env) (rv : VRel C ρ it w) (ra : VRel C ρ (.ref acc) u)
    (hd : (clausesOf e).drop d = gs) (he : ∃ elt g sc p, e = .ListComp elt g sc p)
    (R : Result → Shared → Prop) (hR : ∀ st', Post C ρ s' (fun _ (_ : Unit) => True) () st' → R (.ok .next) st') : codeAny (M C) A (.compLoop e d w u env) R st := by
  obtain ⟨elt, gens, sc, p, rfl⟩ := he
  unfold mkCl at h
  cases gs with
  | nil => cases h
  | cons g gs' =>
    dsimp only at h
    obtain ⟨hg, hd'⟩ := drop_get hd
    replace hg : gens[d]? = some g := hg
    split at h
    · rename_i ha
      obtain ⟨x, s₁, h1, h⟩ := on_some h
      refine codeAny_of_tree ?_
      show wpAny _ A ((compTurn (.ListComp elt gens sc p) d w u env).onRaise (fun x => do noteFrame x env; theTreesLotGoes x)) _ _ _
      refine wpAny_noted ?_
      unfold compTurn
      dsimp only
      rw [hg]
      have e0 : (g.is_async != 0) = false := by rw [noAsync_ok ha]; rfl
      simp only [e0, Bool.false_eq_true, if_false]
      refine wpAny_bind (wpAny_standAt (wpAny_bind (seqT (next_ok hA.h h1 O rv _) fun y ρ₁ st₁ q₁ O₁ ry => ?_)))
      cases x with
      | none =>
        cases ry
        cases h
        exact wpAny_pure (hR _ ⟨ρ₁, q₁, O₁, trivial⟩)
      | some v =>
        obtain ⟨y', rfl, rw'⟩ := ry
        obtain ⟨s₂, h2, h⟩ := andThen_some h
        obtain ⟨c, s₃, h3, h⟩ := on_some h
        obtain ⟨i, o, ei, go, ko⟩ := nextA_it h1
        subst ei
        refine wpAny_bind (owned_ok go ko O₁ (rv.mono q₁) ?_ _)
        refine wpAny_bind (seqT (S.asg h2 hA O₁ (V.mono q₁) rw' _) fun _ ρ₂ st₂ q₂ O₂ _ => ?_)
        refine wpAny_bind (seqT (ifs_ok S hA _ h3 O₂ ((V.mono q₁).mono q₂)) fun b ρ₃ st₃ q₃ O₃ rb => ?_)
        subst rb
        have q := (q₁.trans q₂).trans q₃
        have go' : ∀ {s₄ ρ₄ st₄}, r.cl E (.ListComp elt gens sc p) (g :: gs') (.ref i) acc s₄ = some s' → ρ <+: ρ₄ → Ok C s₄ ρ₄ st₄ →
            wpAny (M C) A (again (.compLoop (.ListComp elt gens sc p) d w u env)) (fun fin s' => match fin with | .done f => R (.ok f) s' | .again c' => c'.quiet = true ∧ codeAny (M C) A c' R s') (notedBy (M C) A env fun e s' => R (.error e) s') st₄ := fun h4 q4 O4 =>
          wpAny_pure ⟨rfl, S.cl h4 hA O4 (V.mono q4) (rv.mono q4) (ra.mono q4) hd ⟨_, _, _, _, rfl⟩ R fun st' p => hR st' (p.up q4)⟩
        cases b with
        | false => rw [if_neg (by decide)]; exact go' h q O₃
        | true =>
          rw [if_pos rfl]
          obtain ⟨s₄, h4, h⟩ := andThen_some h
          cases gs' with
          | nil =>
            have hn : gens[d + 1]? = none := by
              rw [List.getElem?_eq_none_iff]
              exact List.drop_eq_nil_iff.mp hd'
            rw [hn]
            dsimp only
            replace h4 : (on (r.ev E elt s₃) fun v s => andThen (listAt s (.ref acc)) fun xs => on (appA s acc xs v) fun _ s => some s) = some s₄ := h4
            obtain ⟨v2, s₅, h5, h6⟩ := on_some h4
            obtain ⟨xs, hxs, h6⟩ := andThen_some h6
            obtain ⟨un, s₆, h7, h6⟩ := on_some h6
            cases h6
            obtain ⟨i', e', ex⟩ := listAt_some hxs
            cases e'
            refine wpAny_bind (wpAny_bind (seqT (S.ev h5 hA O₃ (V.mono q) _) fun w2 ρ₅ st₅ q₅ O₅ r5 => wpAny_bind (seqT (app_ok h7 ex O₅ ((ra.mono q).mono q₅) r5 _) fun _ ρ₆ st₆ q₆ O₆ _ => wpAny_pure ?_)))
            exact go' h ((q.trans q₅).trans q₆) O₆
          | cons g' gs'' =>
            obtain ⟨hg', _⟩ := drop_get hd'
            replace hg' : gens[d + 1]? = some g' := hg'
            rw [hg']
            dsimp only
            unfold clIn at h4
            dsimp only at h4
            split at h4
            · rename_i hb
              rw [Bool.and_eq_true] at hb
              have e1 : (g'.is_async != 0) = false := by rw [noAsync_ok hb.2]; rfl
              simp only [e1, Bool.false_eq_true, if_false]
              obtain ⟨x2, s₅, h5, h4⟩ := on_some h4
              obtain ⟨it2, s₆, h6, h4⟩ := on_some h4
              have h6' := (iterC_some h6).1
              refine wpAny_bind (seqT (S.ev h5 hA O₃ (V.mono q) _) fun w2 ρ₅ st₅ q₅ O₅ r5 => wpAny_bind (wpAny_standAt ?_))
              rw [folded_ok hb.1]
              refine wpAny_bind (wpAny_pure (wpAny_bind (wpAny_holding (seqT (iter_ok h6' O₅ r5 _) fun w3 ρ₆ st₆ q₆ O₆ r6 => ?_))))
              have q6 := (q.trans q₅).trans q₆
              refine wpAny_bind (wpAny_runOwn (compStart_ok (g := g') hg' hb.2 ?_ ?_))
              · refine S.cl h4 hA.mark O₆ (V.mono q6) r6 (ra.mono q6) hd' ⟨_, _, _, _, rfl⟩ _ fun st' ⟨ρ₇, q₇, O₇, _⟩ => ?_
                exact go' h (q6.trans q₇) O₇
              · intro A' Q' Ex' hq
                obtain ⟨i2, o2, ei2, go2, ko2⟩ := iterC_it h6
                subst ei2
                exact it_again go2 ko2 O₆ r6 hq Ex'
            · cases h4
    · cases h
end
end Mine

namespace Mine
section
open PySem PySem.W PyProof.Rows PySem.Calls PySem.Spec
variable {C : Cx}
theorem snd_mk (G : Glob C) (G2 : Cls C) (B : InB C) {n : Nat} {r : Ev} (S : Snd C n r) : Snd C (n + 1) (mk C.S r) where
  ev h hA O V Ex := ev_ok G G2 B S hA h O V Ex
  tst h hA O V Ex := tst_ok B S (hA.mono (Nat.le_succ n)) h O V Ex
  ex h hA O V Ex := ex_ok S (hA.mono (Nat.le_succ n)) h O V Ex
  asg h hA O V rv Ex := asg_ok G2 S (hA.mono (Nat.le_succ n)) h O V rv Ex
  cal h hA O al k R hR := cal_ok G S hA h O al k R hR
  fl h hA O V rv R hR := fl_ok S (hA.mono (Nat.le_succ n)) h O V rv R hR
  wl h hA O V R hR := wl_ok S (hA.mono (Nat.le_succ n)) h O V R hR
  cl h hA O V rv ra hd he R hR := cl_ok S (hA.mono (Nat.le_succ n)) h O V rv ra hd he R hR
theorem snd (G : Glob C) (G2 : Cls C) (B : InB C) : ∀ n, Snd C n (run C.S n) := by
  intro n
  induction n with
  | zero => exact ⟨fun h => (by cases h), fun h => (by cases h), fun h => (by cases h), fun h => (by cases h), fun h => (by cases h), fun h => (by cases h), fun h => (by cases h), fun h => (by cases h)⟩
  | succ n ih => exact snd_mk G G2 B ih
end
end Mine

namespace Mine
section
open PySem PySem.W PyProof.Rows PySem.Calls PySem.Spec
set_option maxRecDepth 100000
variable {C C' : Cx}

theorem get_build {nx : Nat} {fs} : ∀ {objs : List (Nat × AO)} {i : Nat} {o : AO}, (canS objs nx fs).get i = some o → (i, o) ∈ objs := by
  intro objs
  induction objs with
  | nil => intro i o h; cases h
  | cons p r ih =>
    intro i o h
    have h' : ((canS r nx fs).put p.1 p.2).get i = some o := h
    rw [VS.get_put] at h'
    by_cases hi : i = p.1
    · rw [if_pos hi] at h'
      cases h'
      subst hi
      exact List.mem_cons_self
    · rw [if_neg hi] at h'
      exact List.mem_cons_of_mem _ (ih h')
theorem take_get {ρ : List Addr} {nx i : Nat} {a : Addr} (e : ρ[i]? = some a) (h : i < nx) : (ρ.take nx)[i]? = some a := by
  rw [List.getElem?_take, if_pos h]; exact e
theorem get_take {ρ : List Addr} {nx i : Nat} {a : Addr} (e : (ρ.take nx)[i]? = some a) : ρ[i]? = some a := by
  rw [List.getElem?_take] at e
  split at e
  · exact e
  · cases e
/-- one context for another: the same world and heap -/
structure Same (C C' : Cx) : Prop where
  prog : C'.prog = C.prog
  w : C'.w = C.w
  s₁ : C'.s₁ = C.s₁
  sa : C'.sa = C.sa
theorem leV_ok (hs : Same C C') {nx : Nat} {ρ : List Addr} {a b : AV} {v : Value} (h : leV nx a b = true) (r : VRel C ρ b v) : VRel C' (ρ.take nx) a v := by
  unfold leV at h
  split at h
  · split at h
    · have := of_decide_eq_true h; subst this; exact r
    · cases h
  · unfold leR at h
    split at h
    · split at h
      · rename_i h1
        have h1 := of_decide_eq_true h1
        have h := of_decide_eq_true h
        obtain ⟨t, rfl⟩ := r
        exact ⟨_, t, rfl, h1, h⟩
      · cases h
    · split at h
      · rename_i h1
        have h1 := of_decide_eq_true h1
        have h := of_decide_eq_true h
        obtain ⟨i, t, rfl, q1, q2⟩ := r
        exact ⟨i, t, rfl, by omega, by omega⟩
      · cases h
    · cases h
  · split at h
    · rw [seq_eq] at h
      cases beq_iff_eq.mp h
      exact r
    · cases h
  · split at h
    · split at h
      · rename_i e
        have := Nat.eq_of_beq_eq_true e
        subst this
        obtain ⟨a, q, rfl⟩ := r
        exact ⟨a, take_get q (by simpa using h), rfl⟩
      · cases h
    · cases h
  · split at h
    · show v = .ref C'.sa
      rw [hs.sa]; exact r
    · cases h
  · cases h
theorem leL_ok (hs : Same C C') {nx : Nat} {ρ : List Addr} : ∀ {as bs : List AV} {vs : List Value}, leL nx as bs = true → AllV C ρ bs vs → AllV C' (ρ.take nx) as vs := by
  intro as
  induction as with
  | nil =>
    intro bs vs h r
    cases bs with
    | nil => cases r; exact .nil
    | cons b bs => cases h
  | cons a as ih =>
    intro bs vs h r
    cases bs with
    | nil => cases h
    | cons b bs =>
      cases r with
      | cons rv r =>
        unfold leL at h
        dsimp only at h
        split at h
        · rename_i h1
          exact .cons (leV_ok hs h1 rv) (ih h r)
        · cases h
theorem leD_ok (hs : Same C C') {nx : Nat} {ρ : List Addr} : ∀ {as bs : List (Int × AV)} {vs : List (Int × Value)}, leD nx as bs = true → PairV C ρ bs vs → PairV C' (ρ.take nx) as vs := by
  intro as
  induction as with
  | nil =>
    intro bs vs h r
    cases bs with
    | nil => cases r; exact .nil
    | cons b bs => cases h
  | cons a as ih =>
    intro bs vs h r
    cases bs with
    | nil => cases h
    | cons b bs =>
      cases r with
      | cons rv r =>
        obtain ⟨ak, av⟩ := a
        unfold leD at h
        dsimp only at h
        split at h
        · rename_i h0
          have := of_decide_eq_true h0
          subst this
          split at h
          · rename_i h1
            exact .cons (leV_ok hs h1 rv) (ih h r)
          · cases h
        · cases h
theorem leO_ok (hs : Same C C') {nx : Nat} {ρ : List Addr} {a b : AO} {ob : Obj} (h : leO nx a b = true) (r : ORel C ρ ob b) : ORel C' (ρ.take nx) ob a := by
  unfold leO at h
  split at h
  · split at h
    · obtain ⟨vs, n, e, q⟩ := r
      exact ⟨vs, n, e, leL_ok hs h q⟩
    · cases h
  · split at h
    · obtain ⟨vs, e, q⟩ := r
      exact ⟨vs, e, leL_ok hs h q⟩
    · cases h
  · split at h
    · obtain ⟨w, e, q⟩ := r
      refine ⟨w, e, ?_⟩
      unfold leC at h
      split at h
      · trivial
      · split at h
        · obtain ⟨u, e', q'⟩ := q
          exact ⟨u, e', leV_ok hs h q'⟩
        · cases h
    · cases h
  · split at h
    · obtain ⟨kvs, e, q⟩ := r
      refine ⟨kvs, ?_, leD_ok hs h q⟩
      rw [hs.prog, hs.w]
      exact e
    · cases h
  · split at h
    · split at h
      · rename_i e1
        have := Nat.eq_of_beq_eq_true e1
        subst this
        split at h
        · rename_i e2
          have := Nat.eq_of_beq_eq_true e2
          subst this
          obtain ⟨c, a, q, e⟩ := r
          exact ⟨c, a, take_get q (by simpa using h), e⟩
        · cases h
      · cases h
    · cases h
  · cases h
theorem leObjs_ok {nx : Nat} {s : VS} : ∀ {objs : List (Nat × AO)}, leObjs nx s objs = true → ∀ i o, (i, o) ∈ objs → ∃ o', s.get i = some o' ∧ leO nx o o' = true := by
  intro objs
  induction objs with
  | nil => intro h i o m; cases m
  | cons p r ih =>
    intro h i o m
    unfold leObjs at h
    split at h
    · rename_i o' e
      split at h
      · rename_i h1
        rcases List.mem_cons.mp m with rfl | m
        · exact ⟨o', e, h1⟩
        · exact ih h i o m
      · cases h
    · cases h
theorem look_mem {β : Type} {x : Str} {v : β} : ∀ {m : List (Str × β)}, lookS x m = some v → (x, v) ∈ m := by
  intro m
  induction m with
  | nil => intro h; cases h
  | cons p r ih =>
    intro h
    have e : lookS x (p :: r) = @Bool.rec (fun _ => Option β) (lookS x r) (some p.2) (seq x p.1) := rfl
    rw [e] at h
    cases hx : seq x p.1 with
    | true =>
      rw [hx] at h
      have h : some p.2 = some v := h
      rw [seq_eq] at hx
      have := beq_iff_eq.mp hx
      obtain ⟨a, b⟩ := p
      cases h
      subst this
      exact List.mem_cons_self
    | false =>
      rw [hx] at h
      exact List.mem_cons_of_mem _ (ih h)
theorem leM_ok (hs : Same C C') {nx : Nat} {ρ : List Addr} {m' : List (Str × AV)} {mm : Str → Option Value} (r : MapV C ρ m' mm) : ∀ {m : List (Str × AV)}, leM nx m m' = true → MapV C' (ρ.take nx) m mm := by
  have main : ∀ {m : List (Str × AV)}, leM nx m m' = true → ∀ x v, (x, v) ∈ m → ∃ w, mm x = some w ∧ VRel C' (ρ.take nx) v w := by
    intro m
    induction m with
    | nil => intro h x v q; cases q
    | cons p l ih =>
      intro h x v q
      unfold leM at h
      split at h
      · rename_i u e
        split at h
        · rename_i h1
          rcases List.mem_cons.mp q with rfl | q
          · obtain ⟨w, e', rw'⟩ := r _ _ e
            exact ⟨w, e', leV_ok hs h1 rw'⟩
          · exact ih h x v q
        · cases h
      · cases h
  intro m h x v e
  exact main h x v (look_mem e)
/-- the state cut down to what is written -/
theorem Ok.cut {objs : List (Nat × AO)} {nx : Nat} {fs : List (Nat × List (Str × AV))} {s : VS} {ρ : List Addr} {st : Shared} (hs : Same C C') (h : cutOk objs nx fs s = true) (hlt : ∀ p ∈ objs, p.1 < nx) (O : Ok C s ρ st) :
    Ok C' (canS objs nx fs) (ρ.take nx) st := by
  unfold cutOk at h
  split at h
  · rename_i h0
    have h0 := Nat.le_of_ble_eq_true h0
    split at h
    · rename_i h1
      have get := fun i o (e : (canS objs nx fs).get i = some o) => leObjs_ok h i o (get_build e)
      unfold leF at h1
      split at h1
      · rename_i p
        split at h1
        · rename_i q hq
          split at h1
          · rename_i hk
            have hk := Nat.eq_of_beq_eq_true hk
            split at h1
            · rename_i hb
              have hb : p.1 < nx := by simpa using hb
              have live : ∀ {i : Nat}, Live (canS objs nx [p]) i → Live s i := by
                intro i l
                rcases l with ⟨o, e⟩ | l
                · obtain ⟨o', e', _⟩ := get _ _ e
                  exact .inl ⟨o', e'⟩
                · have : i = p.1 := by simpa [canS] using l
                  subst this
                  refine .inr ?_
                  rw [hq, hk]
                  simp
              refine ⟨⟨?_, ?_, ?_, ?_, ?_, ?_, ?_⟩, ?_⟩
              · show (ρ.take nx).length = nx
                rw [List.length_take, O.1.len]
                omega
              · intro b o e
                refine O.1.keep b o ?_
                show C.s₁.heap.get? b = _
                rw [← hs.s₁]
                exact e
              · intro i o e
                obtain ⟨o', e', l⟩ := get _ _ e
                obtain ⟨a, ob, q1, q2, q3, q4⟩ := O.1.obj i o' e'
                refine ⟨a, ob, take_get q1 (hlt _ (get_build e)), q2, leO_ok hs l q3, ?_⟩
                show C'.s₁.heap.get? a = none
                rw [hs.s₁]
                exact q4
              · intro p' hp
                have : p' = p := by simpa [canS] using hp
                subst this
                obtain ⟨a, mm, q1, q2, q3, q4⟩ := O.1.frm q (by rw [hq]; exact List.mem_cons_self)
                refine ⟨a, mm, take_get (by rw [hk]; exact q1) hb, q2, leM_ok hs q3 h1, ?_⟩
                show C'.s₁.heap.get? a = none
                rw [hs.s₁]
                exact q4
              · intro i j a li lj ei ej
                exact O.1.inj i j a (live li) (live lj) (get_take ei) (get_take ej)
              · intro p' hp
                have : p' = p := by simpa [canS] using hp
                subst this
                cases e : (canS objs nx [p']).get p'.1 with
                | none => rfl
                | some o =>
                  obtain ⟨o', e', _⟩ := get _ _ e
                  have := O.1.frn q (by rw [hq]; exact List.mem_cons_self)
                  rw [← hk, e'] at this
                  cases this
              · show ([p].map (·.1)).Nodup
                simp
              · rw [hs.s₁]
                exact O.2
            · cases h1
          · cases h1
        · cases h1
      · cases h1
    · cases h
  · cases h
theorem Ok.cutL {p : Nat} {s : VS} {ρ : List Addr} {st : Shared} (hs : Same C C') (h : cutOk o2 199 f2 s = true) (g : s.get 198 = some (.lit 9 p)) (O : Ok C s ρ st) : Ok C' (cL p) (ρ.take 199) st := by
  refine O.cut hs ?_ ?_
  · unfold cutOk at h ⊢
    split at h
    · rename_i h0
      split at h
      · rename_i h1
        show (match s.get 198 with | some o => (match leO 199 (.lit 9 p) o with | true => leObjs 199 s o2 | false => false) | none => false) = true
        rw [g]
        dsimp only
        have : leO 199 (.lit 9 p) (.lit 9 p) = true := by
          show (match Nat.beq 9 9 with | true => (match Nat.beq p p with | true => Nat.blt 9 199 | false => false) | false => false) = true
          rw [Nat.beq_refl, Nat.beq_refl]
          rfl
        rw [this]
        exact h
      · cases h
    · cases h
  · intro q hq
    rcases List.mem_cons.mp hq with rfl | hq
    · show 198 < 199
      decide
    · have all : ∀ q ∈ o2, Nat.blt q.1 199 = true := List.all_eq_true.mp (by decide +kernel)
      simpa using all q hq
end
end Mine

namespace Mine
section
open PySem PySem.W PyProof.Rows PySem.Calls PySem.Spec
set_option maxRecDepth 100000
variable {C : Cx}
theorem bind1 (fd : FuncData) (v : Value) (a : Arg) (p7 : List Expr) (p5 : List (Option Expr)) (hp : fd.params = { posonlyargs := [], args := [a], vararg := none, kwonlyargs := [], kw_defaults := p5, kwarg := none, defaults := p7 }) (hd : fd.defaults = .none) : bindArgs fd ⟨[v], []⟩ = pure [(a.arg, v)] := by
  unfold bindArgs
  simp [hp, hd, seqItems?]
  rfl
theorem bind2 (fd : FuncData) (v w : Value) (a b : Arg) (p7 : List Expr) (p5 : List (Option Expr)) (hp : fd.params = { posonlyargs := [], args := [a, b], vararg := none, kwonlyargs := [], kw_defaults := p5, kwarg := none, defaults := p7 }) (hd : fd.defaults = .none) (n1 : (b.arg == a.arg) = false) : bindArgs fd ⟨[v, w], []⟩ = pure [(a.arg, v), (b.arg, w)] := by
  unfold bindArgs
  simp [hp, hd, seqItems?, List.lookup_cons, n1]
  rfl
end
end Mine

namespace Mine
section
open PySem PySem.W PyProof.Rows PySem.Calls PySem.Spec
set_option maxRecDepth 100000
variable {C : Cx} {A : Around} {E : Value → Shared → Prop} {st : Shared}
theorem bind4k (fd : FuncData) (v w x y u0 u1 d : Value) (T K : Addr) (a b c e k : Arg) (p7 : List Expr) (p5 : List (Option Expr)) (n : Nat) (mk : Str → Option Value) {Q : List (Str × Value) → Shared → Prop}
    (hp : fd.params = { posonlyargs := [], args := [a, b, c, e], vararg := none, kwonlyargs := [k], kw_defaults := p5, kwarg := none, defaults := p7 }) (hd : fd.defaults = .ref T) (hk : fd.kwdefaults = .ref K)
    (hT : st.heap.get? T = some { cls := .type "tuple", data := .seq #[u0, u1] n }) (hK : st.heap.Ns K mk) (hm : mk k.arg = some d)
    (nd : [a.arg, b.arg, c.arg, e.arg, k.arg].Nodup) (h : Q [(a.arg, v), (b.arg, w), (c.arg, x), (e.arg, y), (k.arg, d)] st) : wpAny (M C) A (bindArgs fd ⟨[v, w, x, y], []⟩) Q E st := by
  simp only [List.nodup_cons, List.mem_cons, List.not_mem_nil, or_false, not_or, not_false_eq_true, List.nodup_nil, and_true] at nd
  have b1 : ∀ {p q : Str}, p ≠ q → (q == p) = false := fun h => beq_eq_false_iff_ne.mpr (Ne.symm h)
  unfold bindArgs
  simp only [hp, hd, hk]
  refine wpAny_bind (wpAny_pure ?_)
  refine wpAny_bind (wpAny_seqItems hT rfl ?_)
  simp [List.lookup_cons, b1 nd.1.1, b1 nd.1.2.1, b1 nd.1.2.2.1, b1 nd.1.2.2.2, b1 nd.2.1.1, b1 nd.2.1.2.1, b1 nd.2.1.2.2, b1 nd.2.2.1.1, b1 nd.2.2.1.2, b1 nd.2.2.2]
  refine wpAny_bind (wpAny_nsGet hK ?_)
  rw [hm]
  simp [List.lookup_cons, b1 nd.1.1, b1 nd.1.2.1, b1 nd.1.2.2.1, b1 nd.1.2.2.2, b1 nd.2.1.1, b1 nd.2.1.2.1, b1 nd.2.1.2.2, b1 nd.2.2.1.1, b1 nd.2.2.1.2, b1 nd.2.2.2]
  exact wpAny_pure h
end
end Mine

namespace Mine
section
open PySem PySem.W PyProof.Rows PySem.Calls PySem.Spec
set_option maxRecDepth 100000
variable {C : Cx} {A : Around} {E : Value → Shared → Prop} {st : Shared}
theorem bind2k (fd : FuncData) (v w x : Value) (a b k : Arg) (p7 : List Expr) (p5 : List (Option Expr)) 
    (hp : fd.params = { posonlyargs := [], args := [a, b], vararg := none, kwonlyargs := [k], kw_defaults := p5, kwarg := none, defaults := p7 }) (hd : fd.defaults = .none)
    (nd : [a.arg, b.arg, k.arg].Nodup) : bindArgs fd ⟨[v, w], [(k.arg, x)]⟩ = pure [(a.arg, v), (b.arg, w), (k.arg, x)] := by
  simp only [List.nodup_cons, List.mem_cons, List.not_mem_nil, or_false, not_or, not_false_eq_true, List.nodup_nil, and_true] at nd
  have b1 : ∀ {p q : Str}, p ≠ q → (q == p) = false := fun h => beq_eq_false_iff_ne.mpr (Ne.symm h)
  unfold bindArgs
  simp [hp, hd, seqItems?, List.lookup_cons, b1 nd.1.1, b1 nd.1.2, b1 nd.2]
  rfl
theorem bind2d (fd : FuncData) (v w u0 : Value) (T : Addr) (a b : Arg) (p7 : List Expr) (p5 : List (Option Expr)) (n : Nat) {Q : List (Str × Value) → Shared → Prop}
    (hp : fd.params = { posonlyargs := [], args := [a, b], vararg := none, kwonlyargs := [], kw_defaults := p5, kwarg := none, defaults := p7 }) (hd : fd.defaults = .ref T)
    (hT : st.heap.get? T = some { cls := .type "tuple", data := .seq #[u0] n }) (n1 : a.arg ≠ b.arg) (h : Q [(a.arg, v), (b.arg, w)] st) : wpAny (M C) A (bindArgs fd ⟨[v, w], []⟩) Q E st := by
  have b1 : (b.arg == a.arg) = false := beq_eq_false_iff_ne.mpr (Ne.symm n1)
  unfold bindArgs
  simp only [hp, hd]
  refine wpAny_bind (wpAny_pure ?_)
  refine wpAny_bind (wpAny_seqItems hT rfl ?_)
  simp [List.lookup_cons, b1]
  exact wpAny_pure h
end
end Mine

namespace Mine
section
open PySem PySem.W PyProof.Rows PySem.Calls PySem.Spec
set_option maxRecDepth 100000
variable {C : Cx} {A : Around} {E : Value → Shared → Prop} {st : Shared}
theorem bind3w (fd : FuncData) (v w x : Value) (a b c k : Arg) (p7 : List Expr) (p5 : List (Option Expr)) {Q : List (Str × Value) → Shared → Prop}
    (hp : fd.params = { posonlyargs := [], args := [a, b, c], vararg := none, kwonlyargs := [], kw_defaults := p5, kwarg := some k, defaults := p7 }) (hd : fd.defaults = .none)
    (nd : [a.arg, b.arg, c.arg].Nodup) (h : Q [(a.arg, v), (b.arg, w), (c.arg, x), (k.arg, .ref st.heap.objs.size)] { st with heap := st.heap.push { cls := .type "dict", data := .dict #[] } }) : wpAny (M C) A (bindArgs fd ⟨[v, w, x], []⟩) Q E st := by
  simp only [List.nodup_cons, List.mem_cons, List.not_mem_nil, or_false, not_or, not_false_eq_true, List.nodup_nil, and_true] at nd
  have b1 : ∀ {p q : Str}, p ≠ q → (q == p) = false := fun h => beq_eq_false_iff_ne.mpr (Ne.symm h)
  unfold bindArgs
  simp only [hp, hd]
  refine wpAny_bind (wpAny_pure ?_)
  refine wpAny_bind (wpAny_of_eq (a := none) rfl ?_)
  simp [List.lookup_cons, b1 nd.1.1, b1 nd.1.2, b1 nd.2]
  refine wpAny_bind (wpAny_alloc ?_)
  exact wpAny_pure h
end
end Mine

namespace Mine
section
open PySem PySem.W PyProof.Rows PySem.Calls PySem.Spec
set_option maxRecDepth 100000
variable {C : Cx} {fd : FuncData} {F : Fn}

theorem bindP0 {avs : List AV} {bs : List (Str × AV)} (h : bindP [] avs = some bs) : avs = [] ∧ bs = [] := by
  cases avs with
  | nil => cases h; exact ⟨rfl, rfl⟩
  | cons => cases h
theorem bindPc {a : Arg} {l : List Arg} {avs : List AV} {bs : List (Str × AV)} (h : bindP (a :: l) avs = some bs) : ∃ x xs b, avs = x :: xs ∧ bs = (a.arg, x) :: b ∧ bindP l xs = some b := by
  cases avs with
  | nil => cases h
  | cons x xs =>
    obtain ⟨b, hb, h⟩ := andThen_some h
    cases h
    exact ⟨x, xs, b, rfl, rfl, hb⟩
theorem bindK0 {akw kwd bk : List (Str × AV)} (h : bindK akw kwd [] = some bk) : akw = [] ∧ bk = [] := by
  cases akw with
  | nil => cases h; exact ⟨rfl, rfl⟩
  | cons => cases h
theorem bindK1 {akw kwd bk : List (Str × AV)} {k : Arg} (h : bindK akw kwd [k] = some bk) : (akw = [] ∧ ∃ v, lookS k.arg kwd = some v ∧ bk = [(k.arg, v)]) ∨ ∃ v, akw = [(k.arg, v)] ∧ bk = [(k.arg, v)] ∧ kwd = [] := by
  cases akw with
  | nil =>
    obtain ⟨v, hv, h⟩ := andThen_some h
    cases h
    exact .inl ⟨rfl, v, hv, rfl⟩
  | cons q l =>
    cases l with
    | nil =>
      obtain ⟨x, v⟩ := q
      unfold bindK at h
      dsimp only at h
      cases kwd with
      | cons => cases h
      | nil =>
        dsimp only at h
        split at h
        · rename_i hs
          rw [seq_eq] at hs
          cases beq_iff_eq.mp hs
          cases h
          exact .inr ⟨v, rfl, rfl, rfl⟩
        · cases h
    | cons => cases h
theorem bindOk1 {a : Arg} {p7 : List Expr} {p5 : List (Option Expr)} (hp : fd.params = F.params) (hF : F.params = { posonlyargs := [], args := [a], vararg := none, kwonlyargs := [], kw_defaults := p5, kwarg := none, defaults := p7 }) (hd : fd.defaults = .none) : BindOk C fd F := by
  intro A E s ρ st avs akw bs bk vs kw h1 h2 O al k
  have hp := hp.trans hF
  rw [hF] at h1 h2 ⊢
  dsimp only at h1 h2 ⊢
  obtain ⟨x, xs, b, rfl, rfl, j1⟩ := bindPc h1
  obtain ⟨rfl, rfl⟩ := bindP0 j1
  obtain ⟨rfl, rfl⟩ := bindK0 h2
  cases k
  cases al with
  | cons rv al =>
    cases al
    rw [bind1 fd _ a p7 p5 hp hd]
    exact wpAny_pure ⟨ρ, List.prefix_refl _, O, .cons rv .nil⟩
theorem bindOk2 {a b : Arg} {p7 : List Expr} {p5 : List (Option Expr)} (hp : fd.params = F.params) (hF : F.params = { posonlyargs := [], args := [a, b], vararg := none, kwonlyargs := [], kw_defaults := p5, kwarg := none, defaults := p7 }) (hd : fd.defaults = .none)
    (nd : (b.arg == a.arg) = false) : BindOk C fd F := by
  intro A E s ρ st avs akw bs bk vs kw h1 h2 O al k
  have hp := hp.trans hF
  rw [hF] at h1 h2 ⊢
  dsimp only at h1 h2 ⊢
  obtain ⟨x, xs, _, rfl, rfl, j1⟩ := bindPc h1
  obtain ⟨y, ys, _, rfl, rfl, j2⟩ := bindPc j1
  obtain ⟨rfl, rfl⟩ := bindP0 j2
  obtain ⟨rfl, rfl⟩ := bindK0 h2
  cases k
  cases al with
  | cons rv al =>
    cases al with
    | cons rw' al =>
      cases al
      rw [bind2 fd _ _ a b p7 p5 hp hd nd]
      exact wpAny_pure ⟨ρ, List.prefix_refl _, O, .cons rv (.cons rw' .nil)⟩
theorem bindOk2d {a b : Arg} {p7 : List Expr} {p5 : List (Option Expr)} {T : Addr} {u0 : Value} {n : Nat} (hp : fd.params = F.params) (hF : F.params = { posonlyargs := [], args := [a, b], vararg := none, kwonlyargs := [], kw_defaults := p5, kwarg := none, defaults := p7 }) (hd : fd.defaults = .ref T)
    (hT : C.h₀.get? T = some { cls := .type "tuple", data := .seq #[u0] n }) (nd : a.arg ≠ b.arg) : BindOk C fd F := by
  intro A E s ρ st avs akw bs bk vs kw h1 h2 O al k
  have hp := hp.trans hF
  rw [hF] at h1 h2 ⊢
  dsimp only at h1 h2 ⊢
  obtain ⟨x, xs, _, rfl, rfl, j1⟩ := bindPc h1
  obtain ⟨y, ys, _, rfl, rfl, j2⟩ := bindPc j1
  obtain ⟨rfl, rfl⟩ := bindP0 j2
  obtain ⟨rfl, rfl⟩ := bindK0 h2
  cases k
  cases al with
  | cons rv al =>
    cases al with
    | cons rw' al =>
      cases al
      exact bind2d fd _ _ u0 T a b p7 p5 n hp hd (O.1.keep _ _ hT) nd ⟨ρ, List.prefix_refl _, O, .cons rv (.cons rw' .nil)⟩
theorem bindOk2k {a b c : Arg} {p7 : List Expr} {p5 : List (Option Expr)} (hp : fd.params = F.params) (hF : F.params = { posonlyargs := [], args := [a, b], vararg := none, kwonlyargs := [c], kw_defaults := p5, kwarg := none, defaults := p7 }) (hd : fd.defaults = .none)
    (hk : F.kwd = []) (nd : [a.arg, b.arg, c.arg].Nodup) : BindOk C fd F := by
  intro A E s ρ st avs akw bs bk vs kw h1 h2 O al k
  have hp := hp.trans hF
  rw [hF] at h1 h2 ⊢
  rw [hk] at h2
  dsimp only at h1 h2 ⊢
  obtain ⟨x, xs, _, rfl, rfl, j1⟩ := bindPc h1
  obtain ⟨y, ys, _, rfl, rfl, j2⟩ := bindPc j1
  obtain ⟨rfl, rfl⟩ := bindP0 j2
  rcases bindK1 h2 with ⟨rfl, v, hv, rfl⟩ | ⟨v, rfl, rfl, hz⟩
  · cases hv
  · cases k with
    | cons rk k =>
      cases k
      cases al with
      | cons rv al =>
        cases al with
        | cons rw' al =>
          cases al
          rw [bind2k fd _ _ _ a b c p7 p5 hp hd nd]
          exact wpAny_pure ⟨ρ, List.prefix_refl _, O, .cons rv (.cons rw' (.cons rk .nil))⟩
theorem bindOk3w (hlow : ∃ b o, sysModules < b ∧ C.h₀.get? b = some o) {a b c k : Arg} {p7 : List Expr} {p5 : List (Option Expr)} (hp : fd.params = F.params) (hF : F.params = { posonlyargs := [], args := [a, b, c], vararg := none, kwonlyargs := [], kw_defaults := p5, kwarg := some k, defaults := p7 }) (hd : fd.defaults = .none)
    (nd : [a.arg, b.arg, c.arg].Nodup) : BindOk C fd F := by
  intro A E s ρ st avs akw bs bk vs kw h1 h2 O al kr
  have hp := hp.trans hF
  rw [hF] at h1 h2 ⊢
  dsimp only at h1 h2 ⊢
  obtain ⟨x, xs, _, rfl, rfl, j1⟩ := bindPc h1
  obtain ⟨y, ys, _, rfl, rfl, j2⟩ := bindPc j1
  obtain ⟨z, zs, _, rfl, rfl, j3⟩ := bindPc j2
  obtain ⟨rfl, rfl⟩ := bindP0 j3
  obtain ⟨rfl, rfl⟩ := bindK0 h2
  cases kr
  cases al with
  | cons rv al =>
    cases al with
    | cons rw' al =>
      cases al with
      | cons rz al =>
        cases al
        obtain ⟨z1, z2, z3, z4⟩ := hlow
        have zlt : z1 < st.heap.objs.size := Heap.lt_size (O.1.keep _ _ z4)
        have O' : Ok C (s.new (.edict s.nx)) (ρ ++ [st.heap.objs.size]) { st with heap := st.heap.push { cls := .type "dict", data := .dict #[] } } := O.heap (O.1.new (by
            cases e : st.heap.get? st.heap.objs.size with
            | none => rfl
            | some x => exact absurd (Heap.lt_size e) (Nat.lt_irrefl _)) (Heap.get?_push_size _ rfl) (fun b x e => Heap.get?_push_of_some _ e)
          ⟨rfl, st.heap.objs.size, by rw [← O.1.len]; simp, fun e => by rw [e] at zlt; exact absurd zlt (Nat.lt_asymm z3)⟩)
        have pre : ρ <+: ρ ++ [st.heap.objs.size] := List.prefix_append ..
        refine bind3w fd _ _ _ a b c k p7 p5 hp hd nd ⟨_, pre, O', .cons (rv.mono pre) (.cons (rw'.mono pre) (.cons (rz.mono pre) (.cons ⟨st.heap.objs.size, ?_, rfl⟩ .nil)))⟩
        rw [← O.1.len]
        simp
theorem bindOk4k {a b c e k : Arg} {p7 : List Expr} {p5 : List (Option Expr)} {T K : Addr} {u0 u1 : Value} {n : Nat} {mk : Str → Option Value} (hp : fd.params = F.params) (hF : F.params = { posonlyargs := [], args := [a, b, c, e], vararg := none, kwonlyargs := [k], kw_defaults := p5, kwarg := none, defaults := p7 })
    (hd : fd.defaults = .ref T) (hk : fd.kwdefaults = .ref K) (hT : C.h₀.get? T = some { cls := .type "tuple", data := .seq #[u0, u1] n }) (hK : C.h₀.Ns K mk) (hm : mk k.arg = some .none) (hkw : F.kwd = [(k.arg, .none)])
    (nd : [a.arg, b.arg, c.arg, e.arg, k.arg].Nodup) : BindOk C fd F := by
  intro A E s ρ st avs akw bs bk vs kw h1 h2 O al kr
  have hp := hp.trans hF
  rw [hF] at h1 h2 ⊢
  rw [hkw] at h2
  dsimp only at h1 h2 ⊢
  obtain ⟨x, xs, _, rfl, rfl, j1⟩ := bindPc h1
  obtain ⟨y, ys, _, rfl, rfl, j2⟩ := bindPc j1
  obtain ⟨z, zs, _, rfl, rfl, j3⟩ := bindPc j2
  obtain ⟨u, us, _, rfl, rfl, j4⟩ := bindPc j3
  obtain ⟨rfl, rfl⟩ := bindP0 j4
  cases al with
  | cons rx al =>
    cases al with
    | cons ry al =>
      cases al with
      | cons rz al =>
        cases al with
        | cons ru al =>
          cases al
          rcases bindK1 h2 with ⟨rfl, v, hv, rfl⟩ | ⟨v, rfl, rfl, hz⟩
          · cases kr
            have e1 : v = .none := by
              have : lookS k.arg [(k.arg, AV.none)] = some .none := by rw [lookS_eq]; simp
              rw [this] at hv
              cases hv
              rfl
            subst e1
            exact bind4k fd _ _ _ _ u0 u1 .none T K a b c e k p7 p5 n mk hp hd hk (O.1.keep _ _ hT) (hK.keeps O.1.keep) hm nd ⟨ρ, List.prefix_refl _, O, .cons rx (.cons ry (.cons rz (.cons ru (.cons rfl .nil))))⟩
          · cases hz
end
end Mine

namespace Mine
section
open PySem PySem.W PyProof.Rows PySem.Calls PySem.Spec
set_option maxRecDepth 100000
variable {C : Cx} {n : Nat} {r : Ev} {A : Around} {E : AEnv} {env : Env} {s s' : VS} {ρ : List Addr} {st : Shared}

/-- a first part of the statements, then the rest -/
theorem exs_then (S : Snd C n r) (hA : AOk n A) (Ex) {rest : List Stmt} {Q : Flow → Shared → Prop} : ∀ {ss : List Stmt} {s s' : VS} {ρ : List Addr} {st : Shared}, exsR r E ss s = some (.next, s') → Ok C s ρ st → EnvR C ρ E env →
    (∀ ρ' st', ρ <+: ρ' → Ok C s' ρ' st' → wpAny (M C) A (execs rest env) Q Ex st') → wpAny (M C) A (execs (ss ++ rest) env) Q Ex st := by
  intro ss
  induction ss with
  | nil => intro s s' ρ st h O V k; cases h; exact k ρ st (List.prefix_refl _) O
  | cons t ss ih =>
    intro s s' ρ st h O V k
    obtain ⟨g, s₁, h1, h⟩ := on_some h
    refine wpAny_execs_cons (seqT (S.ex h1 hA O V Ex) fun w ρ₁ st₁ q₁ O₁ rf => ?_)
    cases g with
    | next =>
      cases rf
      exact ih h O₁ (V.mono q₁) fun ρ' st' q O' => k ρ' st' (q₁.trans q) O'
    | brk => cases h
    | cont => cases h
    | ret v => cases h
theorem EnvR.cut {C' : Cx} {nx : Nat} (V : EnvR C ρ E env) (h : Nat.blt E.loc nx = true) (hc : E.cells.all (fun p => Nat.blt p.2 nx) = true) : EnvR C' (ρ.take nx) E env where
  scope := V.scope
  kind := V.kind
  loc := take_get V.loc (by simpa using h)
  glob := V.glob
  bi := V.bi
  cells x c e := by
    obtain ⟨a, q, g⟩ := V.cells x c e
    refine ⟨a, q, take_get g ?_⟩
    have := List.all_eq_true.mp hc _ (look_mem e)
    simpa using this
theorem take_pre {ρ ρ' : List Addr} {nx : Nat} (h : ρ <+: ρ') (hl : ρ.length = nx) : ρ'.take nx = ρ := by
  obtain ⟨t, rfl⟩ := h
  rw [List.take_append_of_le_length (by omega), List.take_of_length_le (by omega)]

abbrev Cn (P : Program) (w : World) (s₁ : Shared) (sa : Addr) (n : Nat) (X lo hi : Int) : Cx := ⟨P, w, X, S0 lo hi n, s₁, sa⟩
/-- what the law finds -/
structure Facts (P : Program) (w : World) (s₁ : Shared) (sa : Addr) (n : Nat) : Prop where
  glob : ∀ X lo hi, Glob (Cn P w s₁ sa n X lo hi)
  cls : ∀ X lo hi, Cls (Cn P w s₁ sa n X lo hi)
variable {P : Program} {w : World} {s₁ : Shared} {sa : Addr}
theorem Facts.snd (F : Facts P w s₁ sa n) {X lo hi : Int} (h : lo ≤ X) (h' : X < hi) : Snd (Cn P w s₁ sa n X lo hi) 200 (run (S0 lo hi n) 200) :=
  Mine.snd (C := Cn P w s₁ sa n X lo hi) (F.glob X lo hi) (F.cls X lo hi) ⟨h, h'⟩ 200
theorem same (X lo hi X' lo' hi' : Int) : Same (Cn P w s₁ sa n X lo hi) (Cn P w s₁ sa n X' lo' hi') := ⟨rfl, rfl, rfl, rfl⟩
theorem turn_some {lo hi : Int} {p : Nat} {o : AO} (h : turn lo hi n p = some o) : ∃ s q, (run (S0 lo hi n) 200).asg E0 (forT theFor) (.num 0) (cL p) = some s ∧ exsR (run (S0 lo hi n) 200) E0 (forB theFor) s = some (.next, q) ∧ cutOk o2 199 f2 q = true ∧ q.get 198 = some o := by
  unfold turn at h
  split at h
  · rename_i s h1
    split at h
    · rename_i q h2
      obtain ⟨f, q⟩ := q
      cases f with
      | next =>
        dsimp only at h
        split at h
        · rename_i h3
          exact ⟨s, q, h1, h2, h3, h⟩
        · cases h
      | _ => cases h
    · cases h
  · cases h
theorem endsIn_some {objs : List (Nat × AO)} {nx : Nat} {fs} {x : Option (AF × VS)} (h : endsIn objs nx fs x = true) : ∃ q, x = some (.next, q) ∧ cutOk objs nx fs q = true := by
  unfold endsIn at h
  split at h
  · rename_i p
    obtain ⟨f, q⟩ := p
    cases f with
    | next => exact ⟨q, rfl, h⟩
    | _ => cases h
  · cases h
theorem cells199 : E0.cells.all (fun p => Nat.blt p.2 199) = true := by decide +kernel
theorem cells198 : E0.cells.all (fun p => Nat.blt p.2 198) = true := by decide +kernel
theorem cells11 : E0.cells.all (fun p => Nat.blt p.2 11) = true := by decide +kernel
/-- the law's own loop -/
theorem loop_ok (F : Facts P w s₁ sa n) (hA : AOk 200 A) (R : Result → Shared → Prop) : ∀ k p, p + k = 3 → ∀ {ρ : List Addr} {st : Shared} {v : Value}, Ok (Cn P w s₁ sa n 0 0 1) (cL p) ρ st → EnvR (Cn P w s₁ sa n 0 0 1) ρ E0 env → VRel (Cn P w s₁ sa n 0 0 1) ρ (.ref 198) v →
    (∀ st' ρ', ρ <+: ρ' → Ok (Cn P w s₁ sa n 0 0 1) ((cL 3).del 198) ρ' st' → R (.ok .next) st') → codeAny (model P w) A (.forLoop (forT theFor) v (forB theFor) [] env) R st := by
  intro k
  induction k with
  | zero =>
    intro p hp ρ st v O V rv hR
    have : p = 3 := by omega
    subst this
    refine fl_ok (C := Cn P w s₁ sa n 0 0 1) (F.snd (by decide) (by decide)) hA (s := cL 3) (s' := (cL 3).del 198) (f := .next) ?_ O V rv R fun f' st' p => ?_
    · show on (nextA (cL 3) (.ref 198)) _ = _
      rw [next_3]
      rfl
    · obtain ⟨ρ', q, O', e⟩ := p
      cases e
      exact hR st' ρ' q O'
  | succ k ih =>
    intro p hp ρ st v O V rv hR
    have h1 : nextA (cL p) (.ref 198) = some (some (.rng 0 12960000), cL (p + 1)) := by
      have : p = 0 ∨ p = 1 ∨ p = 2 := by omega
      rcases this with rfl | rfl | rfl
      · exact next_0
      · exact next_1
      · exact next_2
    refine codeAny_of_tree ?_
    show wpAny _ A ((forTurn (forT theFor) v (forB theFor) [] env).onRaise (fun x => do noteFrame x env; theTreesLotGoes x)) _ _ _
    refine wpAny_noted ?_
    unfold forTurn
    refine wpAny_bind (wpAny_standAt (wpAny_bind (wpAny_onRaise (seqT (next_ok (C := Cn P w s₁ sa n 0 0 1) hA.h h1 O rv _) fun y ρ₁ st₁ q₁ O₁ ry => ?_))))
    obtain ⟨u, rfl, ru⟩ := ry
    obtain ⟨i, t, rfl, i0, i1⟩ := ru
    obtain ⟨lo, hi, g0, g1, tn⟩ := pick i i0 i1
    obtain ⟨s, q, h2, h3, h4, h5⟩ := turn_some (tn n (p + 1))
    obtain ⟨j, o, ei, go, ko⟩ := nextA_it h1
    cases ei
    refine wpAny_bind (owned_ok (C := Cn P w s₁ sa n 0 0 1) go ko O₁ (rv.mono q₁) ?_ _)
    have hl : ρ₁.length = 199 := O₁.1.len
    have OX : Ok (Cn P w s₁ sa n i lo hi) (cL (p + 1)) ρ₁ st₁ := by
      have := Ok.cutL (same 0 0 1 i lo hi) (cutL (p + 1)) (getL (p + 1)) O₁
      rw [List.take_of_length_le (by omega)] at this
      exact this
    have VX : EnvR (Cn P w s₁ sa n i lo hi) ρ₁ E0 env := ⟨V.scope, V.kind, pre_get q₁ V.loc, V.glob, V.bi, (V.mono q₁).cells⟩
    have SX := F.snd g0 g1
    refine wpAny_bind (seqT (SX.asg h2 hA OX VX ⟨t, by rw [Int.sub_zero]⟩ _) fun _ ρ₂ st₂ q₂ O₂ _ => ?_)
    refine wpAny_bind (seqT (exs_ok SX hA _ h3 O₂ (VX.mono q₂)) fun fl ρ₃ st₃ q₃ O₃ rf => ?_)
    cases rf
    have O4 : Ok (Cn P w s₁ sa n 0 0 1) (cL (p + 1)) ρ₁ st₃ := by
      have := Ok.cutL (same i lo hi 0 0 1) h4 h5 O₃
      rw [take_pre (q₂.trans q₃) hl] at this
      exact this
    exact wpAny_pure ⟨rfl, ih (p + 1) (by omega) O4 (V.mono q₁) (rv.mono q₁) fun st' ρ' q O' => hR st' ρ' (q₁.trans q) O'⟩
end
end Mine

namespace Mine
section
open PySem PySem.W PyProof.Rows PySem.Calls PySem.Spec
set_option maxRecDepth 100000
variable {P : Program} {w : World} {s₁ : Shared} {sa : Addr} {n : Nat}

theorem steps1_le : ∀ {m : Nat}, steps1 m = true → ∀ n, n ≤ m → step1 n = true := by
  intro m
  induction m with
  | zero => intro h n q; have : n = 0 := by omega
            subst this; exact h
  | succ m ih =>
    intro h n q
    unfold steps1 at h
    split at h
    · rename_i h1
      by_cases e : n = m + 1
      · subst e; exact h1
      · exact ih h n (by omega)
    · cases h
theorem lt_objs {nx : Nat} {objs : List (Nat × AO)} (h : objs.all (fun p => Nat.blt p.1 nx) = true) : ∀ p ∈ objs, p.1 < nx := by
  intro p hp
  simpa using List.all_eq_true.mp h p hp
theorem lt_o1 : o1.all (fun p => Nat.blt p.1 11) = true := by decide +kernel
theorem lt_o2 : o2.all (fun p => Nat.blt p.1 198) = true := by decide +kernel
theorem body_eq2 : lawF.body = stmts 0 1 ++ (stmts 1 4 ++ (.For (forT theFor) (forI theFor) (forB theFor) [] (forP theFor) :: stmts 6 1)) := by kernel_rfl
theorem noSetI : noSet (forI theFor) = true := by kernel_rfl
/-- the law's call -/
theorem law_ok (F : Facts P w s₁ sa n) (hn : n ≤ 63) (R : Result → Shared → Prop)
    (hR : ∀ st', (∀ b o, s₁.heap.get? b = some o → st'.heap.get? b = some o) → st' = { s₁ with heap := st'.heap, toks := st'.toks } → R (.ok (.ret (.bool true))) st') :
    codeAny (model P w) callerA (.call (.ref 242) ⟨[.ref sa], []⟩) R s₁ := by
  have hA : AOk 201 callerA := ⟨rfl, by decide, by decide⟩
  have h1 := steps1_le steps1_ok n hn
  have h2 := step2_ok n
  have G := F.glob 0 0 1
  have S := F.snd (X := 0) (lo := 0) (hi := 1) (by decide) (by decide)
  have O : Ok (Cn P w s₁ sa n 0 0 1) sStart [] s₁ := ⟨⟨rfl, fun _ _ e => e, fun i o e => (by cases e), fun p hp => (by cases hp), fun i j a li _ e _ => (by cases e), fun p hp => (by cases hp), List.nodup_nil⟩, rfl⟩
  obtain ⟨o, fd, ho, hd, hb, hs, hcl, hg, hbi, hcd, hco, hgen, hk, bind⟩ := (G.fn 242 lawF (lawAt 0 1 n)).ok
  refine codeAny_call_function hA.room ho hd (by rw [hs]; exact hco) (by rw [hs]; exact hgen) hb hcd ?_
  refine seqT (bind callerA.in1 _ sStart [] s₁ [.scr] [] _ [] [.ref sa] [] bindL bindKL O (.cons rfl .nil) .nil) fun binds ρ₁ st₁ q₁ O₁ kb => ?_
  rw [kwL] at kb O₁
  rw [hg, hcl, hbi, hs]
  unfold step1 at h1
  split at h1
  · rename_i sS hsS
    have h3 : storesA ⟨lawF.scope, sStart.nx, (cellsA lawF.scope.names sStart.push []).1⟩ [((PySem.Str.ofString "script" : Str), AV.scr)] (cellsA lawF.scope.names sStart.push []).2 = some sS := hsS
    refine seqT (newEnv_ok (C := Cn P w s₁ sa n 0 0 1) hk h3 O₁ (cl := []) (closure := []) (fun x c e => by cases e) kb _) fun env ρ₂ st₂ q₂ O₂ V => ⟨G.lim.keeps O₂.1.keep, codeAny_func ?_⟩
    have V : EnvR (Cn P w s₁ sa n 0 0 1) ρ₂ E0 env := V
    have hA' : AOk 200 (callerA.deeper env) := hA.deeper env
    rw [body_eq2]
    have hr := ret_ok n
    unfold step2 at h2
    generalize stmts 0 1 = b1 at h1 ⊢
    generalize stmts 1 4 = b2 at h2 ⊢
    generalize stmts 6 1 = b3 at hr ⊢
    obtain ⟨sq, e1, k1⟩ := endsIn_some h1
    refine exs_then S hA' _ e1 O₂ V fun ρ₃ st₃ q₃ O₃ => ?_
    have O₃ : Ok (Cn P w s₁ sa n 0 0 1) c1 (ρ₃.take 11) st₃ := O₃.cut (same 0 0 1 0 0 1) k1 (lt_objs lt_o1)
    have V₃ : EnvR (Cn P w s₁ sa n 0 0 1) (ρ₃.take 11) E0 env := (V.mono q₃).cut rfl cells11
    obtain ⟨sq2, e2, k2⟩ := endsIn_some h2
    have e2 : exsR (run (S0 0 1 n) 200) E0 b2 c1 = some (.next, sq2) := e2
    refine exs_then S hA' _ e2 O₃ V₃ fun ρ₄ st₄ q₄ O₄ => ?_
    have O₄ : Ok (Cn P w s₁ sa n 0 0 1) c2 (ρ₄.take 198) st₄ := O₄.cut (same 0 0 1 0 0 1) k2 (lt_objs lt_o2)
    have V₄ : EnvR (Cn P w s₁ sa n 0 0 1) (ρ₄.take 198) E0 env := (V₃.mono q₄).cut rfl cells198
    refine wpAny_execs_cons ?_
    refine wpAny_For ?_ (folded_ok noSetI env)
    refine seqT (S.ev (iter_ev n) hA' O₄ V₄ _) fun x ρ₅ st₅ q₅ O₅ rx => ?_
    refine seqT (iter_ok iter_it O₅ rx _) fun wi ρ₆ st₆ q₆ O₆ ri => ?_
    refine loop_ok F hA' _ 3 0 rfl O₆ ((V₄.mono q₅).mono q₆) ri fun st₇ ρ₇ q₇ O₇ => ?_
    refine seqT (exs_ok S hA' _ hr O₇ (((V₄.mono q₅).mono q₆).mono q₇)) fun fl ρ₈ st₈ q₈ O₈ rf => ?_
    obtain ⟨u, rfl, ru⟩ := rf
    cases ru
    exact hR st₈ O₈.1.keep O₈.2
  · cases h1
end
end Mine

namespace Mine
section
open PySem PySem.W PyProof.Rows PySem.Calls PySem.Spec
set_option maxRecDepth 100000
def codeOk (K : Frag) (cd : Value) (q : Str) : Bool := match cd with
  | .ref c => (match K.lookup c with
    | some o => (match o.data with
      | .fields vs => (match vs[1]? with
        | some v => (match v with | .str x _ => seq x q | _ => false)
        | none => false)
      | _ => false)
    | none => false)
  | _ => false
theorem codeOk_ok {K : Frag} {h : Heap} (X : K.In h) {cd : Value} {q : Str} (e : codeOk K cd q = true) : h.CodeRec cd q := by
  unfold codeOk at e
  split at e
  · rename_i c
    split at e
    · rename_i o ho
      split at e
      · rename_i vs hd
        split at e
        · rename_i v hv
          split at e
          · rename_i x t
            rw [seq_eq] at e
            cases beq_iff_eq.mp e
            exact ⟨c, o, vs, t, rfl, X _ _ ho, hd, hv⟩
          · cases e
        · cases e
      · cases e
    · cases e
  · cases e
abbrev Sig := FuncBody × Scope × List (Str × Addr) × Addr × Addr × Arguments × Bool × Value × Value
def fnSig (K : Frag) (a : Addr) : Option Sig := match K.lookup a with
  | some o => (match o.data with
    | .func fd => some (fd.body, fd.scope, fd.closure, fd.globals, fd.builtins, fd.params, codeOk K fd.code fd.qualname, fd.defaults, fd.kwdefaults)
    | _ => none)
  | none => none
def sigF (F : Fn) (d k : Value) : Option Sig := some (.stmts F.body, F.scope, [], mainGlobals, builtinsNs, F.params, true, d, k)
structure Plain (F : Fn) : Prop where
  c : F.scope.isCoroutine = false
  g : F.scope.isGenerator = false
  k : F.scope.kind = .function
variable {C : Cx} {K : Frag}
theorem fnAt_of {a : Addr} {F : Fn} {d k : Value} (X : K.In C.h₀) (e : fnSig K a = sigF F d k) (p : Plain F) (bind : ∀ fd : FuncData, fd.params = F.params → fd.defaults = d → fd.kwdefaults = k → BindOk C fd F) : FnAt C a F := by
  unfold fnSig at e
  split at e
  · rename_i o ho
    split at e
    · rename_i fd hd
      unfold sigF at e
      simp only [Option.some.injEq, Prod.mk.injEq] at e
      obtain ⟨e1, e2, e3, e4, e5, e6, e7, e8, e9⟩ := e
      exact ⟨o, fd, X _ _ ho, hd, e1, e2, e3, e4, e5, codeOk_ok X e7, p.c, p.g, p.k, bind fd e6 e8 e9⟩
    · cases e
  · cases e
def dictEs (K : Frag) (a : Addr) : Option (Array DictEntry) := match K.lookup a with
  | some o => (match o.data with | .dict es _ => some es | _ => none)
  | none => none
def esAt (K : Frag) (a : Addr) : Array DictEntry := (dictEs K a).getD #[]
def isStrKey (e : DictEntry) : Bool := match e.key with | .str _ _ => true | _ => false
def dictOk (K : Frag) (a : Addr) : Bool := match dictEs K a with
  | some es => es.toList.all isStrKey
  | none => false
theorem dictEs_ok {a : Addr} {es : Array DictEntry} (e : dictEs K a = some es) : ∃ o ep, K.lookup a = some o ∧ o.data = .dict es ep := by
  unfold dictEs at e
  split at e
  · rename_i o ho
    split at e
    · rename_i es' ep hd
      cases e
      exact ⟨o, ep, ho, hd⟩
    · cases e
  · cases e
theorem ns_of {h : Heap} (X : K.In h) {a : Addr} (e : dictOk K a = true) : h.Ns a (nsFind (esAt K a)) := by
  unfold dictOk at e
  split at e
  · rename_i es he
    obtain ⟨o, ep, ho, hd⟩ := dictEs_ok he
    refine ⟨o, es, ep, X _ _ ho, hd, fun x hx => ?_, fun name => ?_⟩
    · have := List.all_eq_true.mp e x (Array.mem_toList_iff.mpr hx)
      unfold isStrKey at this
      split at this
      · rename_i n t hk
        exact ⟨n, t, hk⟩
      · cases this
    · unfold esAt
      rw [he]
      rfl
  · cases e
theorem ns_same {h : Heap} (X : K.In h) {a : Addr} {m : Str → Option Value} (hm : h.Ns a m) (e : dictOk K a = true) (x : Str) : m x = nsFind (esAt K a) x := by
  obtain ⟨o, es, ep, g, hd, _, hf⟩ := hm
  obtain ⟨o', es', ep', g', hd', _, hf'⟩ := ns_of X e
  rw [g] at g'
  cases g'
  rw [hd] at hd'
  cases hd'
  rw [← hf, ← hf']
def intAt (v : Option Value) : Option Int := match v with
  | some x => (match x with | .int i _ => some i | _ => none)
  | none => none
theorem intAt_ok {v : Option Value} {i : Int} (h : intAt v = some i) : ∃ t, v = some (.int i t) := by
  unfold intAt at h
  split at h
  · split at h
    · cases h; exact ⟨_, rfl⟩
    · cases h
  · cases h
def seqAt (K : Frag) (a : Addr) : Array Value := match K.lookup a with
  | some o => (match o.data with | .seq vs _ => vs | _ => #[])
  | none => #[]
def clsAt (K : Frag) (a : Addr) : Option Value := (K.lookup a).map (·.cls)
theorem clsAt_ok {h : Heap} (X : K.In h) {a : Addr} {c : Value} (e : clsAt K a = some c) : ∃ o, h.get? a = some o ∧ o.cls = c := by
  unfold clsAt at e
  cases ho : K.lookup a with
  | none => rw [ho] at e; cases e
  | some o => rw [ho] at e; cases e; exact ⟨o, X _ _ ho, rfl⟩
def argN (F : Fn) (i : Nat) : Arg := F.params.args.getD i default
def kwN (F : Fn) : Arg := F.params.kwonlyargs.getD 0 default
def kargN (F : Fn) : Arg := F.params.kwarg.getD default
def shp (F : Fn) (n : Nat) (kw karg : Bool) : Arguments := { posonlyargs := [], args := (List.range n).map (argN F), vararg := none, kwonlyargs := if kw then [kwN F] else [], kw_defaults := F.params.kw_defaults, kwarg := if karg then some (kargN F) else none, defaults := F.params.defaults }
theorem plain_213 : Plain (fnK "bisect_left") := ⟨by kernel_rfl, by kernel_rfl, by kernel_rfl⟩
theorem shp_213 : (fnK "bisect_left").params = { posonlyargs := [], args := [argN (fnK "bisect_left") 0, argN (fnK "bisect_left") 1, argN (fnK "bisect_left") 2, argN (fnK "bisect_left") 3], vararg := none, kwonlyargs := [kwN (fnK "bisect_left")], kw_defaults := (fnK "bisect_left").params.kw_defaults, kwarg := none, defaults := (fnK "bisect_left").params.defaults } := by kernel_rfl
theorem nd_213 : [(argN (fnK "bisect_left") 0).arg, (argN (fnK "bisect_left") 1).arg, (argN (fnK "bisect_left") 2).arg, (argN (fnK "bisect_left") 3).arg, (kwN (fnK "bisect_left")).arg].Nodup := by decide +kernel
theorem kwd_213 : (fnK "bisect_left").kwd = [((kwN (fnK "bisect_left")).arg, .none)] := by kernel_rfl
theorem plain_195 : Plain (fnK "bisect_right") := ⟨by kernel_rfl, by kernel_rfl, by kernel_rfl⟩
theorem shp_195 : (fnK "bisect_right").params = { posonlyargs := [], args := [argN (fnK "bisect_right") 0, argN (fnK "bisect_right") 1, argN (fnK "bisect_right") 2, argN (fnK "bisect_right") 3], vararg := none, kwonlyargs := [kwN (fnK "bisect_right")], kw_defaults := (fnK "bisect_right").params.kw_defaults, kwarg := none, defaults := (fnK "bisect_right").params.defaults } := by kernel_rfl
theorem nd_195 : [(argN (fnK "bisect_right") 0).arg, (argN (fnK "bisect_right") 1).arg, (argN (fnK "bisect_right") 2).arg, (argN (fnK "bisect_right") 3).arg, (kwN (fnK "bisect_right")).arg].Nodup := by decide +kernel
theorem kwd_195 : (fnK "bisect_right").kwd = [((kwN (fnK "bisect_right")).arg, .none)] := by kernel_rfl
theorem plain_204 : Plain (fnK "insort_left") := ⟨by kernel_rfl, by kernel_rfl, by kernel_rfl⟩
theorem shp_204 : (fnK "insort_left").params = { posonlyargs := [], args := [argN (fnK "insort_left") 0, argN (fnK "insort_left") 1, argN (fnK "insort_left") 2, argN (fnK "insort_left") 3], vararg := none, kwonlyargs := [kwN (fnK "insort_left")], kw_defaults := (fnK "insort_left").params.kw_defaults, kwarg := none, defaults := (fnK "insort_left").params.defaults } := by kernel_rfl
theorem nd_204 : [(argN (fnK "insort_left") 0).arg, (argN (fnK "insort_left") 1).arg, (argN (fnK "insort_left") 2).arg, (argN (fnK "insort_left") 3).arg, (kwN (fnK "insort_left")).arg].Nodup := by decide +kernel
theorem kwd_204 : (fnK "insort_left").kwd = [((kwN (fnK "insort_left")).arg, .none)] := by kernel_rfl
theorem plain_227 : Plain (fnD "ISEOF") := ⟨by kernel_rfl, by kernel_rfl, by kernel_rfl⟩
theorem shp_227 : (fnD "ISEOF").params = { posonlyargs := [], args := [argN (fnD "ISEOF") 0], vararg := none, kwonlyargs := [], kw_defaults := (fnD "ISEOF").params.kw_defaults, kwarg := none, defaults := (fnD "ISEOF").params.defaults } := by kernel_rfl
theorem plain_220 : Plain (fnD "ISNONTERMINAL") := ⟨by kernel_rfl, by kernel_rfl, by kernel_rfl⟩
theorem shp_220 : (fnD "ISNONTERMINAL").params = { posonlyargs := [], args := [argN (fnD "ISNONTERMINAL") 0], vararg := none, kwonlyargs := [], kw_defaults := (fnD "ISNONTERMINAL").params.kw_defaults, kwarg := none, defaults := (fnD "ISNONTERMINAL").params.defaults } := by kernel_rfl
theorem plain_232 : Plain (fnD "_law_read") := ⟨by kernel_rfl, by kernel_rfl, by kernel_rfl⟩
theorem shp_232 : (fnD "_law_read").params = { posonlyargs := [], args := [argN (fnD "_law_read") 0], vararg := none, kwonlyargs := [], kw_defaults := (fnD "_law_read").params.kw_defaults, kwarg := none, defaults := (fnD "_law_read").params.defaults } := by kernel_rfl
theorem plain_237 : Plain (fnD "_law_room") := ⟨by kernel_rfl, by kernel_rfl, by kernel_rfl⟩
theorem shp_237 : (fnD "_law_room").params = { posonlyargs := [], args := [argN (fnD "_law_room") 0], vararg := none, kwonlyargs := [], kw_defaults := (fnD "_law_room").params.kw_defaults, kwarg := none, defaults := (fnD "_law_room").params.defaults } := by kernel_rfl
theorem plain_242 : Plain (lawF) := ⟨by kernel_rfl, by kernel_rfl, by kernel_rfl⟩
theorem shp_242 : (lawF).params = { posonlyargs := [], args := [argN (lawF) 0], vararg := none, kwonlyargs := [], kw_defaults := (lawF).params.kw_defaults, kwarg := none, defaults := (lawF).params.defaults } := by kernel_rfl
theorem plain_76 : Plain (fnM "__init__") := ⟨by kernel_rfl, by kernel_rfl, by kernel_rfl⟩
theorem shp_76 : (fnM "__init__").params = { posonlyargs := [], args := [argN (fnM "__init__") 0, argN (fnM "__init__") 1], vararg := none, kwonlyargs := [], kw_defaults := (fnM "__init__").params.kw_defaults, kwarg := none, defaults := (fnM "__init__").params.defaults } := by kernel_rfl
theorem nd_76 : (argN (fnM "__init__") 0).arg ≠ (argN (fnM "__init__") 1).arg := by decide +kernel
theorem plain_83 : Plain (fnM "_convert_string_type") := ⟨by kernel_rfl, by kernel_rfl, by kernel_rfl⟩
theorem shp_83 : (fnM "_convert_string_type").params = { posonlyargs := [], args := [argN (fnM "_convert_string_type") 0, argN (fnM "_convert_string_type") 1], vararg := none, kwonlyargs := [kwN (fnM "_convert_string_type")], kw_defaults := (fnM "_convert_string_type").params.kw_defaults, kwarg := none, defaults := (fnM "_convert_string_type").params.defaults } := by kernel_rfl
theorem nd_83 : [(argN (fnM "_convert_string_type") 0).arg, (argN (fnM "_convert_string_type") 1).arg, (kwN (fnM "_convert_string_type")).arg].Nodup := by decide +kernel
theorem plain_121 : Plain (fnM "get_all") := ⟨by kernel_rfl, by kernel_rfl, by kernel_rfl⟩
theorem shp_121 : (fnM "get_all").params = { posonlyargs := [], args := [argN (fnM "get_all") 0, argN (fnM "get_all") 1], vararg := none, kwonlyargs := [], kw_defaults := (fnM "get_all").params.kw_defaults, kwarg := none, defaults := (fnM "get_all").params.defaults } := by kernel_rfl
theorem nd_121 : ((argN (fnM "get_all") 1).arg == (argN (fnM "get_all") 0).arg) = false := by kernel_rfl
theorem plain_146 : Plain (fnM "items") := ⟨by kernel_rfl, by kernel_rfl, by kernel_rfl⟩
theorem shp_146 : (fnM "items").params = { posonlyargs := [], args := [argN (fnM "items") 0], vararg := none, kwonlyargs := [], kw_defaults := (fnM "items").params.kw_defaults, kwarg := none, defaults := (fnM "items").params.defaults } := by kernel_rfl
theorem plain_179 : Plain (fnM "add_header") := ⟨by kernel_rfl, by kernel_rfl, by kernel_rfl⟩
theorem shp_179 : (fnM "add_header").params = { posonlyargs := [], args := [argN (fnM "add_header") 0, argN (fnM "add_header") 1, argN (fnM "add_header") 2], vararg := none, kwonlyargs := [], kw_defaults := (fnM "add_header").params.kw_defaults, kwarg := some (kargN (fnM "add_header")), defaults := (fnM "add_header").params.defaults } := by kernel_rfl
theorem nd_179 : [(argN (fnM "add_header") 0).arg, (argN (fnM "add_header") 1).arg, (argN (fnM "add_header") 2).arg].Nodup := by decide +kernel
/-- what the head's written heap says -/
structure KFacts (K : Frag) : Prop where
  f213 : fnSig K 213 = sigF (fnK "bisect_left") (.ref 205) (.ref 206)
  f195 : fnSig K 195 = sigF (fnK "bisect_right") (.ref 187) (.ref 188)
  f204 : fnSig K 204 = sigF (fnK "insort_left") (.ref 196) (.ref 197)
  f227 : fnSig K 227 = sigF (fnD "ISEOF") (.none) (.none)
  f220 : fnSig K 220 = sigF (fnD "ISNONTERMINAL") (.none) (.none)
  f232 : fnSig K 232 = sigF (fnD "_law_read") (.none) (.none)
  f237 : fnSig K 237 = sigF (fnD "_law_room") (.none) (.none)
  f242 : fnSig K 242 = sigF (lawF) (.none) (.none)
  f76 : fnSig K 76 = sigF (fnM "__init__") (.ref 69) (.none)
  f83 : fnSig K 83 = sigF (fnM "_convert_string_type") (.none) (.none)
  f121 : fnSig K 121 = sigF (fnM "get_all") (.none) (.none)
  f146 : fnSig K 146 = sigF (fnM "items") (.none) (.none)
  f179 : fnSig K 179 = sigF (fnM "add_header") (.none) (.none)
  t187 : K.lookup 187 = some { cls := .type "tuple", data := .seq #[.int 0 554, .none] }
  t196 : K.lookup 196 = some { cls := .type "tuple", data := .seq #[.int 0 568, .none] }
  t205 : K.lookup 205 = some { cls := .type "tuple", data := .seq #[.int 0 581, .none] }
  t69 : K.lookup 69 = some { cls := .type "tuple", data := .seq #[.none] }
  d188 : dictOk K 188 = true
  k188 : nsFind (esAt K 188) (kwN (fnK "bisect_right")).arg = some .none
  d197 : dictOk K 197 = true
  k197 : nsFind (esAt K 197) (kwN (fnK "insort_left")).arg = some .none
  d206 : dictOk K 206 = true
  k206 : nsFind (esAt K 206) (kwN (fnK "bisect_left")).arg = some .none
  d3 : dictOk K 3 = true
  d181 : dictOk K 181 = true
  g0 : nsFind (esAt K 3) (PySem.Str.ofString "Headers") = some (.ref 182)
  g1 : nsFind (esAt K 3) (PySem.Str.ofString "bisect_left") = some (.ref 213)
  g2 : nsFind (esAt K 3) (PySem.Str.ofString "bisect_right") = some (.ref 195)
  g3 : nsFind (esAt K 3) (PySem.Str.ofString "insort_left") = some (.ref 204)
  g4 : nsFind (esAt K 3) (PySem.Str.ofString "ISEOF") = some (.ref 227)
  g5 : nsFind (esAt K 3) (PySem.Str.ofString "ISNONTERMINAL") = some (.ref 220)
  g6 : nsFind (esAt K 3) (PySem.Str.ofString "_law_read") = some (.ref 232)
  g7 : nsFind (esAt K 3) (PySem.Str.ofString "_law_room") = some (.ref 237)
  g8 : nsFind (esAt K 3) (PySem.Str.ofString "_name_disallowed_re") = some (.ref 48)
  g9 : nsFind (esAt K 3) (PySem.Str.ofString "_value_disallowed_re") = some (.ref 53)
  i0 : intAt (nsFind (esAt K 3) (PySem.Str.ofString "ENDMARKER")) = some 0
  i1 : intAt (nsFind (esAt K 3) (PySem.Str.ofString "NT_OFFSET")) = some 256
  b0 : nsFind (esAt K 3) (PySem.Str.ofString "len") = none
  b1 : nsFind (esAt K 3) (PySem.Str.ofString "sum") = none
  b2 : nsFind (esAt K 3) (PySem.Str.ofString "range") = none
  b3 : nsFind (esAt K 3) (PySem.Str.ofString "str") = none
  b4 : nsFind (esAt K 3) (PySem.Str.ofString "int") = none
  b5 : nsFind (esAt K 3) (PySem.Str.ofString "zip") = none
  b6 : nsFind (esAt K 3) (PySem.Str.ofString "list") = none
  b7 : nsFind (esAt K 3) (PySem.Str.ofString "type") = none
  cls : K.lookup 182 = some (excClassObj (PySem.Str.ofString "Headers") (PySem.Str.ofString "Headers") 182 181 [.type "object"] [.type "object"] true [] [] false none none none none (some (.str (PySem.Str.ofString "Headers") 395)) (some (.str (PySem.Str.ofString "Headers") 403)) (some (.bool true)) "object.__new__")
  n0 : nsFind (esAt K 181) (PySem.Str.ofString "__getattribute__") = none
  n1 : nsFind (esAt K 181) (PySem.Str.ofString "__getattr__") = none
  n2 : nsFind (esAt K 181) (PySem.Str.ofString "__setattr__") = none
  n3 : nsFind (esAt K 181) (PySem.Str.ofString "_headers") = none
  m0 : nsFind (esAt K 181) (PySem.Str.ofString "_convert_string_type") = some (.ref 83)
  c0 : clsAt K 83 = some (.type "function")
  m1 : nsFind (esAt K 181) (PySem.Str.ofString "get_all") = some (.ref 121)
  c1 : clsAt K 121 = some (.type "function")
  m2 : nsFind (esAt K 181) (PySem.Str.ofString "items") = some (.ref 146)
  c2 : clsAt K 146 = some (.type "function")
  m3 : nsFind (esAt K 181) (PySem.Str.ofString "add_header") = some (.ref 179)
  c3 : clsAt K 179 = some (.type "function")
  law : nsFind (esAt K 3) (PySem.Str.ofString "law") = some (.ref 242)
  make : makesIn K 182 = true
  init : findIn K (.ref 182) "__init__" = some (some (.ref 76))
  ty : typeIn K (.ref 76) = some (.type "function")
  p48 : K.lookup 48 = some { cls := .type "re.Pattern", data := .fields #[.str (PySem.Str.ofString "[\\x00-\\x1F\\x7F]") 326, .int 32 349, .int 0 0, .none, .none, .ref 47, .int 0 0] }
  p47 : K.lookup 47 = some { cls := .type "tuple", data := .seq (seqAt K 47) }
  q47 : (seqAt K 47).map Builtin.Re.reRawOf = codeN.toArray
  p53 : K.lookup 53 = some { cls := .type "re.Pattern", data := .fields #[.str (PySem.Str.ofString "[\\x00-\\x08\\x0A-\\x1F\\x7F]") 352, .int 32 383, .int 0 0, .none, .none, .ref 52, .int 0 0] }
  p52 : K.lookup 52 = some { cls := .type "tuple", data := .seq (seqAt K 52) }
  q52 : (seqAt K 52).map Builtin.Re.reRawOf = codeV.toArray
theorem boot_0 : bootBuiltins (PySem.Str.ofString "len") = some (.builtin "len") := by kernel_rfl
theorem boot_1 : bootBuiltins (PySem.Str.ofString "sum") = some (.builtin "sum") := by kernel_rfl
theorem boot_2 : bootBuiltins (PySem.Str.ofString "range") = some (.type "range") := by kernel_rfl
theorem boot_3 : bootBuiltins (PySem.Str.ofString "str") = some (.type "str") := by kernel_rfl
theorem boot_4 : bootBuiltins (PySem.Str.ofString "int") = some (.type "int") := by kernel_rfl
theorem boot_5 : bootBuiltins (PySem.Str.ofString "zip") = some (.type "zip") := by kernel_rfl
theorem boot_6 : bootBuiltins (PySem.Str.ofString "list") = some (.type "list") := by kernel_rfl
theorem boot_7 : bootBuiltins (PySem.Str.ofString "type") = some (.type "type") := by kernel_rfl
variable {P : Program} {w : World} {s₁ : Shared} {sa : Addr} {n : Nat} {X lo hi : Int}
theorem low_of (k : KFacts K) (X : K.In C.h₀) : ∃ b o, sysModules < b ∧ C.h₀.get? b = some o := ⟨69, _, by decide, X _ _ k.t69⟩
theorem fns_ok (k : KFacts K) (KX : K.In s₁.heap) : ∀ a F, lookN a (S0 lo hi n).fn = some F → FnAt (Cn P w s₁ sa n X lo hi) a F := by
  intro a F h
  have KX : K.In (Cn P w s₁ sa n X lo hi).h₀ := KX
  have m := lookN_mem h
  simp only [S0, List.mem_cons, List.not_mem_nil, or_false, Prod.mk.injEq] at m
  rcases m with ⟨rfl, rfl⟩ | ⟨rfl, rfl⟩ | ⟨rfl, rfl⟩ | ⟨rfl, rfl⟩ | ⟨rfl, rfl⟩ | ⟨rfl, rfl⟩ | ⟨rfl, rfl⟩ | ⟨rfl, rfl⟩ | ⟨rfl, rfl⟩ | ⟨rfl, rfl⟩ | ⟨rfl, rfl⟩ | ⟨rfl, rfl⟩ | ⟨rfl, rfl⟩
  · exact fnAt_of KX k.f213 plain_213 fun fd h1 h2 h3 => bindOk4k h1 shp_213 h2 h3 (KX _ _ k.t205) (ns_of KX k.d206) k.k206 kwd_213 nd_213
  · exact fnAt_of KX k.f195 plain_195 fun fd h1 h2 h3 => bindOk4k h1 shp_195 h2 h3 (KX _ _ k.t187) (ns_of KX k.d188) k.k188 kwd_195 nd_195
  · exact fnAt_of KX k.f204 plain_204 fun fd h1 h2 h3 => bindOk4k h1 shp_204 h2 h3 (KX _ _ k.t196) (ns_of KX k.d197) k.k197 kwd_204 nd_204
  · exact fnAt_of KX k.f227 plain_227 fun fd h1 h2 h3 => bindOk1 h1 shp_227 h2
  · exact fnAt_of KX k.f220 plain_220 fun fd h1 h2 h3 => bindOk1 h1 shp_220 h2
  · exact fnAt_of KX k.f232 plain_232 fun fd h1 h2 h3 => bindOk1 h1 shp_232 h2
  · exact fnAt_of KX k.f237 plain_237 fun fd h1 h2 h3 => bindOk1 h1 shp_237 h2
  · exact fnAt_of KX k.f242 plain_242 fun fd h1 h2 h3 => bindOk1 h1 shp_242 h2
  · exact fnAt_of KX k.f76 plain_76 fun fd h1 h2 h3 => bindOk2d h1 shp_76 h2 (KX _ _ k.t69) nd_76
  · exact fnAt_of KX k.f83 plain_83 fun fd h1 h2 h3 => bindOk2k h1 shp_83 h2 rfl nd_83
  · exact fnAt_of KX k.f121 plain_121 fun fd h1 h2 h3 => bindOk2 h1 shp_121 h2 nd_121
  · exact fnAt_of KX k.f146 plain_146 fun fd h1 h2 h3 => bindOk1 h1 shp_146 h2
  · exact fnAt_of KX k.f179 plain_179 fun fd h1 h2 h3 => bindOk3w (low_of k KX) h1 shp_179 h2 nd_179
theorem glob_ok (k : KFacts K) (KX : K.In s₁.heap) {mg mb : Str → Option Value} (hg : s₁.heap.Ns mainGlobals mg) (hb : ∀ x : Str, x ≠ "__name__" → mb x = bootBuiltins x) :
    ∀ x v, lookS x (S0 lo hi n).glob = some v → ∃ u, VRel (Cn P w s₁ sa n X lo hi) [] v u ∧ (mg x = some u ∨ (mg x = none ∧ mb x = some u)) := by
  intro x v h
  have g := fun y => ns_same KX (a := mainGlobals) hg k.d3 y
  have m := look_mem h
  simp only [S0, List.mem_cons, List.not_mem_nil, or_false, Prod.mk.injEq] at m
  rcases m with ⟨rfl, rfl⟩ | ⟨rfl, rfl⟩ | ⟨rfl, rfl⟩ | ⟨rfl, rfl⟩ | ⟨rfl, rfl⟩ | ⟨rfl, rfl⟩ | ⟨rfl, rfl⟩ | ⟨rfl, rfl⟩ | ⟨rfl, rfl⟩ | ⟨rfl, rfl⟩ | ⟨rfl, rfl⟩ | ⟨rfl, rfl⟩ | ⟨rfl, rfl⟩ | ⟨rfl, rfl⟩ | ⟨rfl, rfl⟩ | ⟨rfl, rfl⟩ | ⟨rfl, rfl⟩ | ⟨rfl, rfl⟩ | ⟨rfl, rfl⟩ | ⟨rfl, rfl⟩
  · exact ⟨_, rfl, .inl ((g _).trans k.g0)⟩
  · exact ⟨_, rfl, .inl ((g _).trans k.g1)⟩
  · exact ⟨_, rfl, .inl ((g _).trans k.g2)⟩
  · exact ⟨_, rfl, .inl ((g _).trans k.g3)⟩
  · exact ⟨_, rfl, .inl ((g _).trans k.g4)⟩
  · exact ⟨_, rfl, .inl ((g _).trans k.g5)⟩
  · exact ⟨_, rfl, .inl ((g _).trans k.g6)⟩
  · exact ⟨_, rfl, .inl ((g _).trans k.g7)⟩
  · obtain ⟨t, e⟩ := intAt_ok k.i0
    exact ⟨_, ⟨t, rfl⟩, .inl ((g _).trans e)⟩
  · obtain ⟨t, e⟩ := intAt_ok k.i1
    exact ⟨_, ⟨t, rfl⟩, .inl ((g _).trans e)⟩
  · exact ⟨_, rfl, .inl ((g _).trans k.g8)⟩
  · exact ⟨_, rfl, .inl ((g _).trans k.g9)⟩
  · exact ⟨_, rfl, .inr ⟨(g _).trans k.b0, (hb _ (by decide +kernel)).trans boot_0⟩⟩
  · exact ⟨_, rfl, .inr ⟨(g _).trans k.b1, (hb _ (by decide +kernel)).trans boot_1⟩⟩
  · exact ⟨_, rfl, .inr ⟨(g _).trans k.b2, (hb _ (by decide +kernel)).trans boot_2⟩⟩
  · exact ⟨_, rfl, .inr ⟨(g _).trans k.b3, (hb _ (by decide +kernel)).trans boot_3⟩⟩
  · exact ⟨_, rfl, .inr ⟨(g _).trans k.b4, (hb _ (by decide +kernel)).trans boot_4⟩⟩
  · exact ⟨_, rfl, .inr ⟨(g _).trans k.b5, (hb _ (by decide +kernel)).trans boot_5⟩⟩
  · exact ⟨_, rfl, .inr ⟨(g _).trans k.b6, (hb _ (by decide +kernel)).trans boot_6⟩⟩
  · exact ⟨_, rfl, .inr ⟨(g _).trans k.b7, (hb _ (by decide +kernel)).trans boot_7⟩⟩
theorem cls_ok (k : KFacts K) (KX : K.In s₁.heap) : Cls (Cn P w s₁ sa n X lo hi) where
  at_ := by
    refine ⟨_, _, _, _, _, _, _, _, _, _, _, _, _, _, _, _, KX _ _ k.cls, ns_of KX k.d181, k.n0, k.n1, k.n2, k.n3, fun x f h => ?_⟩
    have m := look_mem h
    simp only [S0, List.mem_cons, List.not_mem_nil, or_false, Prod.mk.injEq] at m
    rcases m with ⟨rfl, rfl⟩ | ⟨rfl, rfl⟩ | ⟨rfl, rfl⟩ | ⟨rfl, rfl⟩
    · exact k.m0
    · exact k.m1
    · exact k.m2
    · exact k.m3
  meth x f h := by
    have m := look_mem h
    simp only [S0, List.mem_cons, List.not_mem_nil, or_false, Prod.mk.injEq] at m
    unfold methN
    rcases m with ⟨rfl, rfl⟩ | ⟨rfl, rfl⟩ | ⟨rfl, rfl⟩ | ⟨rfl, rfl⟩ <;> simp
  fn x f h := by
    have m := look_mem h
    simp only [S0, List.mem_cons, List.not_mem_nil, or_false, Prod.mk.injEq] at m
    rcases m with ⟨rfl, rfl⟩ | ⟨rfl, rfl⟩ | ⟨rfl, rfl⟩ | ⟨rfl, rfl⟩
    · exact clsAt_ok KX k.c0
    · exact clsAt_ok KX k.c1
    · exact clsAt_ok KX k.c2
    · exact clsAt_ok KX k.c3
  make := ⟨K, KX, k.make, k.init, k.ty⟩
theorem facts_ok (k : KFacts K) (KX : K.In s₁.heap) {mg mb : Str → Option Value} (hg : s₁.heap.Ns mainGlobals mg) (hm : s₁.heap.Ns builtinsNs mb) (hb : ∀ x : Str, x ≠ "__name__" → mb x = bootBuiltins x)
    (hl : s₁.heap.NoLimit) (hs : ∃ vs : List Value, s₁.heap.IsList sa vs.toArray ∧ n ≤ 63 ∧ (∀ C : Cx, AllV C [] (List.replicate n .any) vs)) : Facts P w s₁ sa n where
  glob X lo hi := {
    ok := ⟨mg, mb, hg, hm, glob_ok k KX hg hb⟩
    pat := fun a h => by
      have h : memN a [48, 53] = true := h
      have : a = 48 ∨ a = 53 := by
        simp only [memN] at h
        cases e1 : Nat.beq a 48 with
        | true => exact .inl (Nat.eq_of_beq_eq_true e1)
        | false =>
          rw [e1] at h
          cases e2 : Nat.beq a 53 with
          | true => exact .inr (Nat.eq_of_beq_eq_true e2)
          | false => rw [e2] at h; cases h
      rcases this with rfl | rfl
      · exact .inl ⟨_, _, _, _, _, KX _ _ k.p48, KX _ _ k.p47, k.q47⟩
      · exact .inr ⟨_, _, _, _, _, KX _ _ k.p53, KX _ _ k.p52, k.q52⟩
    lim := hl
    fn := fns_ok k KX
    scr := let ⟨vs, g, hn, al⟩ := hs; ⟨vs, g, Nat.le_trans hn (by decide), al _⟩ }
  cls X lo hi := cls_ok k KX
theorem ints_any (C : Cx) {vs : List Value} {ns : List Int} (h : IntsAre vs ns) : AllV C [] (List.replicate ns.length .any) vs := by
  induction h with
  | nil => exact .nil
  | cons n t _ ih => exact .cons ⟨n, t, rfl⟩ ih
theorem fin_ok {mg mb : Str → Option Value} {fa : Addr} {vs : List Value} {ns : List Int} {name : Str} (KX : K.In s₁.heap) (k : KFacts K) (hg : s₁.heap.Ns mainGlobals mg) (hm : s₁.heap.Ns builtinsNs mb) (hl : s₁.heap.NoLimit) (hb : ∀ x : Str, x ≠ "__name__" → mb x = bootBuiltins x)
    (hname : name = PySem.Str.ofString "law") (hmg : mg name = some (.ref fa)) (hL : s₁.heap.IsList sa vs.toArray) (hI : IntsAre vs ns) (hn : ns.length ≤ 63) (R : Result → Shared → Prop)
    (hR : ∀ st', (∀ b o, s₁.heap.get? b = some o → st'.heap.get? b = some o) → st' = { s₁ with heap := st'.heap, toks := st'.toks } → R (.ok (.ret (.bool true))) st') :
    codeAny (model P w) callerA (.call (.ref fa) ⟨[.ref sa], []⟩) R s₁ := by
  have e := (ns_same KX (a := mainGlobals) hg k.d3 (PySem.Str.ofString "law")).trans k.law
  rw [hname, e] at hmg
  cases hmg
  exact law_ok (facts_ok k KX hg hm hb hl ⟨vs, hL, hn, fun C => ints_any C hI⟩) hn R hR
end
end Mine

open PySem PySem.W PyProof.Rows
set_option maxRecDepth 100000 in
set_option maxHeartbeats 8000000 in
theorem PySem.Challenge.cw_sn0054_01_holds : PySem.Challenge.rw_sn0054_01.Holds := by
  w_on
  o_law
  k_head
  (case hw => w_witness2)
  k_fill
  intro w s₀ s₁ mg mb G Y fa o pm cd doc dV kV ho hd hcd hD hmg hg args vals as hpre hlay hrd hwl hlo
  have KX := kIn_of Y
  refine Ground.open G ?_
  intro T B D TE TW
  wrow_args hpre hlay hrd hwl hlo
  rename_i xs _ _ _ _ _ _ _ la vs _ hL _ _ _ hI _ hn _
  refine enter_call ?_
  w_top on
  refine Mine.fin_ok KX (by constructor <;> kernel_rfl) T.g T.b T.nolimit T.builtins rfl hmg hL hI (by omega) _ fun st' hk hst => ?_
  refine GoodW.toG ?_
  refine ⟨.inl ⟨.bool true, .bool true, [], rfl, fun _ => rfl, .bool true, by kernel_rfl, fun _ => ⟨List.nodup_nil, fun a ha => by cases ha⟩⟩, hk, by rw [hst], by rw [hst]; exact hg⟩
